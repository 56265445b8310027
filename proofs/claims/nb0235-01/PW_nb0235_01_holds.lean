import PyProof.Rows.All
import Wide.All
import OpenK.AllK
import Wide.FinOn
import PySem.Challenge.RW_nb0235_01
set_option Elab.async false
set_option compiler.extract_closed false

section
-- Head1
open PySem PySem.W PyProof.Rows
set_option Elab.async false
set_option maxRecDepth 100000
set_option maxHeartbeats 8000000
namespace Mine
open_top hd1 for PySem.Challenge.rw_nb0235_01
end Mine
end

section
-- RulesA
open PySem PySem.W PyProof.Rows PySem.Calls
set_option Elab.async false
set_option maxRecDepth 100000
namespace Mine
section
variable {prog : Program} {w : World} {A : Around} {E : Value → Shared → Prop} {s : Shared} {h₀ : Heap} {L D : Addr} {m : Str → Option Value} {news tl : List (Addr × Obj)} {its : List Value} {n : Nat} {k : Int} {u : Tok}

theorem getD_some {its : List Value} {k : Int} (h0 : 0 ≤ k) (h1 : k < its.length) : its[k.toNat]? = some (its.getD k.toNat .none) := by
  have : k.toNat < its.length := by lia
  simp [List.getD, this]

theorem at_get {Q : Value → Shared → Prop} (N : News h₀ L s.heap news) (hm : (D, listOf its.toArray n) ∈ news) (h0 : 0 ≤ k) (h1 : k < its.length) (hz : k < 2 ^ 63)
    (h : Q (its.getD k.toNat .none) s) : wpAny (model prog w) A (getItem (.ref D) (.int k u)) Q E s :=
  wpAny_getItem_list (PySem.IsL.isList (n := n) (N _ hm).1) h0 hz (by simpa using getD_some h0 h1) h

theorem at_sub {value slice : PySem.Expr} {Q : Value → Shared → Prop} (N : News h₀ L s.heap news) (hm : (D, listOf its.toArray n) ∈ news) (h0 : 0 ≤ k) (h1 : k < its.length) (hz : k < 2 ^ 63)
    (h : Q (its.getD k.toNat .none) s)
    (hs : subscripted slice false (.ref D) (.int k u) = operate [.ref D, .int k u] (getItem (.ref D) (.int k u)) := by with_unfolding_all rfl) :
    wpAny (model prog w) A (subscriptTail value slice (.ref D) (.int k u)) Q E s :=
  have hl := PySem.IsL.isList (n := n) (N _ hm).1
  tail_any hl.typeIs slot_list_getitem.lookup (at_get N hm h0 h1 hz h) hs

theorem at_set {v : Value} {Q : Unit → Shared → Prop} (F : Fr h₀ L s.heap m) (N : News h₀ L s.heap ((D, listOf its.toArray n) :: tl)) (hD : ∀ p ∈ tl, p.1 ≠ D) (h0 : 0 ≤ k) (h1 : k < its.length) (hz : k < 2 ^ 63)
    (h : ∀ h', Fr h₀ L h' m → News h₀ L h' ((D, listOf (its.set k.toNat v).toArray n) :: tl) → Q () { s with heap := h' }) :
    wpAny (model prog w) A (setItem (.ref D) (.int k u) v) Q E s := by
  have z := N (D, listOf its.toArray n) (.head _)
  refine ki_setAt z.1 h0 hz (by simpa using h1) (h _ (F.change (Heap.SameBut.update ..) z.2.1 z.2.2) (ki_turn (pre := []) _ N (fun _ h => nomatch h) hD ?_ ?_))
  · show its.toArray.setIfInBounds k.toNat v = (its.set k.toNat v).toArray
    apply Array.toList_inj.mp
    simp
  · simp
end
end Mine
end

section
-- RulesB
open PySem PySem.W PyProof.Rows PySem.Calls
set_option Elab.async false
set_option maxRecDepth 100000
namespace Mine
noncomputable def slt (x y : Str) : Bool := decide (x.cps.toList < y.cps.toList)
noncomputable def klt (k k' : Str) (i i' : Int) : Bool := if k = k' then decide (i < i') else slt k k'
noncomputable abbrev tupObj (xs : List Value) (n : Nat) : Obj := { cls := .type "tuple", data := .seq xs.toArray n }
section
variable {prog : Program} {w : World} {A : Around} {E : Value → Shared → Prop} {s : Shared}

theorem rlt_str {x y : Str} {t u : Tok} {Q : Value → Shared → Prop} (h : Q (.bool (slt x y)) s) : wpAny (model prog w) A (richCompare .Lt (.str x t) (.str y u)) Q E s :=
  PyProof.Rows.lt_str (x := x) (y := y) (t := t) (u := u) h
theorem rlt_int {x y : Int} {t u : Tok} {Q : Value → Shared → Prop} (h : Q (.bool (decide (x < y))) s) : wpAny (model prog w) A (richCompare .Lt (.int x t) (.int y u)) Q E s :=
  PyProof.Rows.lt_int (a := x) (b := y) (t := t) (u := u) h
theorem klt_ne {k k' : Str} {i i' : Int} (h : k ≠ k') : klt k k' i i' = slt k k' := by unfold klt; rw [if_neg h]
theorem klt_eq {k : Str} {i i' : Int} : klt k k i i' = decide (i < i') := by unfold klt; rw [if_pos rfl]
theorem tup_lt {a b : Addr} {k k' : Str} {i i' : Int} {e e' : Str} {t1 t2 t3 u1 u2 u3 : Tok} {n n' : Nat} {Q : Value → Shared → Prop}
    (ha : s.heap.get? a = some (tupObj [.str k t1, .int i t2, .str e t3] n)) (hb : s.heap.get? b = some (tupObj [.str k' u1, .int i' u2, .str e' u3] n'))
    (he : k = k' → i = i' → e = e') (hu : A.units < cLine)
    (h : Q (.bool (klt k k' i i')) s) : wpAny (model prog w) A (compareOp .Lt (.ref a) (.ref b)) Q E s := by
  refine cmp_ofLt (wpAny_richCompare_same_room (T := "tuple") ⟨_, ha, rfl⟩ ⟨_, hb, rfl⟩ PySem.F.slot_tuple_lt ?_ hu)
  refine wpAny_call_entry PySem.F.slot_tuple_lt ⟨_, ha, rfl⟩ PySem.F.entry_tuple_lt ?_ (PySem.F.args_tuple_lt_2 _ _)
  show wpAny _ _ (isInstance (.ref b) (.type "tuple") >>= _) _ _ s
  refine wpAny_bind (wpAny_isInstance ⟨_, hb, rfl⟩ isSubtype_tuple_tuple ?_)
  simp only [Bool.not_true, Bool.false_eq_true, if_false]
  refine wpAny_bind (wpAny_tupleItemsOf ha rfl ?_)
  refine wpAny_bind (wpAny_tupleItemsOf hb rfl ?_)
  refine wpAny_bind ?_
  simp only [List.zip_cons_cons, List.zip_nil_left, List.forIn_cons, List.forIn_nil]
  refine wpAny_bind (wpAny_bind (wpAny_eqBool_str ?_))
  by_cases h1 : k = k'
  · subst h1
    simp only [decide_true, Bool.not_true, Bool.false_eq_true, if_false]
    refine wpAny_pure ?_
    refine wpAny_bind (wpAny_bind (wpAny_eqBool_int ?_))
    by_cases h2 : i = i'
    · subst h2
      obtain rfl := he rfl rfl
      simp only [beq_self_eq_true, Bool.not_true, Bool.false_eq_true, if_false]
      refine wpAny_pure ?_
      refine wpAny_bind (wpAny_bind (wpAny_eqBool_str ?_))
      simp only [decide_true, Bool.not_true, Bool.false_eq_true, if_false]
      refine wpAny_pure (wpAny_pure ?_)
      refine wpAny_pure ⟨_, rfl, by simp [Builtin.Tuple.tupleCompareSizes], ?_⟩
      rw [klt_eq] at h
      simpa [Builtin.Tuple.tupleCompareSizes] using h
    · have h3 : (i == i') = false := by simpa using h2
      simp only [h3, Bool.not_false, if_true]
      refine wpAny_bind (wpAny_rule (wpAny_bind (rlt_int (wpAny_bind (wpAny_pure (wpAny_pure (wpAny_pure ?_)))))))
      rw [klt_eq] at h
      exact wpAny_pure ⟨_, rfl, by simp, h⟩
  · simp only [h1, decide_false, Bool.not_false, if_true]
    refine wpAny_bind (wpAny_rule (wpAny_bind (rlt_str (wpAny_bind (wpAny_pure (wpAny_pure (wpAny_pure ?_)))))))
    rw [klt_ne h1] at h
    exact wpAny_pure ⟨_, rfl, by simp, h⟩

theorem lst_lt_loop2 (a b : Addr) (k k' : Str) (i i' : Int) (t1 t2 u1 u2 : Tok) (n n' : Nat) : 
    Meets (Builtin.«list.__eq__.loop» ⟨[.ref a, .ref b, rawInt (0 + 1 + 1), rawInt 0], []⟩)
      (fun _ R s => s.heap.get? a = some (listOf #[.str k t1, .int i t2] n) ∧ s.heap.get? b = some (listOf #[.str k' u1, .int i' u2] n') ∧ R (.ok (.ret (.bool false))) s) := by
  intro prog w A R s h
  obtain ⟨hp, g, d, tk, os⟩ := s; obtain ⟨ha, hb, h⟩ := h
  wp_walk using PySem.AutoSeq1.wpAny_loadPart' ha, PySem.AutoSeq1.wpAny_loadPart' hb
  exact h
theorem lst_lt_loop1 (a b : Addr) (k k' : Str) (i i' : Int) (t1 t2 u1 u2 : Tok) (n n' : Nat) : 
    Meets (Builtin.«list.__eq__.loop» ⟨[.ref a, .ref b, rawInt (0 + 1), rawInt 0], []⟩)
      (fun _ R s => s.heap.get? a = some (listOf #[.str k t1, .int i t2] n) ∧ s.heap.get? b = some (listOf #[.str k' u1, .int i' u2] n') ∧ R (.ok (.ret (.bool (decide (i < i'))))) s) := by
  intro prog w A R s h
  obtain ⟨hp, g, d, tk, os⟩ := s; obtain ⟨ha, hb, h⟩ := h
  wp_walk using PySem.AutoSeq1.wpAny_loadPart' ha, PySem.AutoSeq1.wpAny_loadPart' hb
  show wpAny (model prog w) A.in1 (eqBool (.int i t2) (.int i' u2)) _ _ _
  refine wpAny_eqBool_int ?_
  by_cases h2 : i = i'
  · subst h2
    simp only [beq_self_eq_true, if_true]
    wp_walk
    exact ⟨plainId_quiet PySem.MeetsSeq3.plain_eq_loop _, codeAny_builtin PySem.MeetsSeq3.entry_eq_loop (by
      rw [Around.under_plainId PySem.MeetsSeq3.plain_eq_loop _]
      exact lst_lt_loop2 a b k k' i i t1 t2 u1 u2 n n' prog w A R _ ⟨ha, hb, by simpa using h⟩)⟩
  · have h3 : (i == i') = false := by simpa using h2
    simp only [h3, Bool.false_eq_true, if_false]
    refine wpAny_bind (listItems_at ha rfl (wpAny_bind (listItems_at hb rfl ?_)))
    show wpAny (model prog w) A.in1 (richCompare .Lt (.int i t2) (.int i' u2) >>= fun v => ret v) _ _ _
    exact wpAny_bind (rlt_int (wpAny_pure h))
theorem lst_lt_loop (a b : Addr) (k k' : Str) (i i' : Int) (t1 t2 u1 u2 : Tok) (n n' : Nat) : 
    Meets (Builtin.«list.__eq__.loop» ⟨[.ref a, .ref b, rawInt 0, rawInt 0], []⟩)
      (fun _ R s => s.heap.get? a = some (listOf #[.str k t1, .int i t2] n) ∧ s.heap.get? b = some (listOf #[.str k' u1, .int i' u2] n') ∧ R (.ok (.ret (.bool (klt k k' i i')))) s) := by
  intro prog w A R s h
  obtain ⟨hp, g, d, tk, os⟩ := s; obtain ⟨ha, hb, h⟩ := h
  wp_walk using PySem.AutoSeq1.wpAny_loadPart' ha, PySem.AutoSeq1.wpAny_loadPart' hb
  show wpAny (model prog w) A.in1 (eqBool (.str k t1) (.str k' u1)) _ _ _
  refine wpAny_eqBool_str ?_
  by_cases h1 : k = k'
  · subst h1
    rw [klt_eq] at h
    simp only [decide_true, if_true]
    wp_walk
    exact ⟨plainId_quiet PySem.MeetsSeq3.plain_eq_loop _, codeAny_builtin PySem.MeetsSeq3.entry_eq_loop (by
      rw [Around.under_plainId PySem.MeetsSeq3.plain_eq_loop _]
      exact lst_lt_loop1 a b k k i i' t1 t2 u1 u2 n n' prog w A R _ ⟨ha, hb, h⟩)⟩
  · rw [klt_ne h1] at h
    simp only [h1, decide_false, Bool.false_eq_true, if_false]
    refine wpAny_bind (listItems_at ha rfl (wpAny_bind (listItems_at hb rfl ?_)))
    show wpAny (model prog w) A.in1 (richCompare .Lt (.str k t1) (.str k' u1) >>= fun v => ret v) _ _ _
    exact wpAny_bind (rlt_str (wpAny_pure h))
theorem lst_lt {a b : Addr} {k k' : Str} {i i' : Int} {t1 t2 u1 u2 : Tok} {n n' : Nat} {Q : Value → Shared → Prop}
    (ha : s.heap.get? a = some (listOf #[.str k t1, .int i t2] n)) (hb : s.heap.get? b = some (listOf #[.str k' u1, .int i' u2] n'))
    (hu : A.units < cLine)
    (h : Q (.bool (klt k k' i i')) s) : wpAny (model prog w) A (compareOp .Lt (.ref a) (.ref b)) Q E s := by
  refine cmp_ofLt (richCompare_meets_room (T := "list") (S := fun A R s => s.heap.get? a = some (listOf #[.str k t1, .int i t2] n) ∧ s.heap.get? b = some (listOf #[.str k' u1, .int i' u2] n') ∧ R (.ok (.ret (.bool (klt k k' i i')))) s)
    ⟨_, ha, rfl⟩ ⟨_, hb, rfl⟩ PySem.F.slot_list_lt PySem.F.entry_list_lt (PySem.F.args_list_lt_2 _ _) ?_ ⟨ha, hb, by simp, h⟩ hu)
  intro prog w A R s h
  obtain ⟨hp, g, d, tk, os⟩ := s; obtain ⟨ha, hb, h⟩ := h
  have f3 := PySem.AutoSeq1.sub_list_list
  wp_walk using PySem.AutoSeq1.wpAny_loadPart' ha, PySem.AutoSeq1.wpAny_loadPart' hb
  exact ⟨plainId_quiet PySem.MeetsSeq3.plain_eq_loop _, codeAny_builtin PySem.MeetsSeq3.entry_eq_loop (by
    rw [Around.under_plainId PySem.MeetsSeq3.plain_eq_loop _]
    exact lst_lt_loop a b k k' i i' t1 t2 u1 u2 n n' prog w A R _ ⟨ha, hb, h⟩)⟩
end
end Mine
end

section
-- RulesC
open PySem PySem.W PyProof.Rows PySem.Calls PySem.Spec
set_option Elab.async false
set_option maxRecDepth 100000
namespace Mine
noncomputable def Hold (p : Prop) : Prop := p
theorem hold {p : Prop} (h : Hold p) : p := h
noncomputable def putM (m : Str → Option Value) : List (Str × Value) → Str → Option Value
  | [] => m
  | (x, v) :: r => fun y => if y = x then some v else putM m r y
theorem puts {h₀ h : Heap} {L : Addr} {m : Str → Option Value} (F : Fr h₀ L h m) (ps : List (Str × Value)) (e : ∀ p ∈ ps, m p.1 = some p.2) : Fr h₀ L h (putM m ps) := by
  have q : putM m ps = m := by
    induction ps with
    | nil => rfl
    | cons p r ih =>
      obtain ⟨x, v⟩ := p
      funext y
      show (if y = x then some v else putM m r y) = m y
      rw [ih fun p hp => e p (.tail _ hp)]
      by_cases hy : y = x
      · rw [if_pos hy, hy]; exact (e _ (.head _)).symm
      · rw [if_neg hy]
  rw [q]; exact F
theorem lim {n a b r : Nat} (h : n + a < r) (hb : b ≤ a) : n + b < r := Nat.lt_of_le_of_lt (Nat.add_le_add_left hb n) h
theorem pn {m : Str → Option Value} : ∀ p ∈ ([] : List (Str × Value)), m p.1 = some p.2 := fun _ h => (nomatch h)
theorem pm {m : Str → Option Value} {x : Str} {v : Value} {ps : List (Str × Value)} (h : m x = some v) (r : ∀ p ∈ ps, m p.1 = some p.2) : ∀ p ∈ (x, v) :: ps, m p.1 = some p.2 := List.forall_mem_cons.mpr ⟨h, r⟩
theorem getD_mem {l : List Value} {k : Nat} (h : k < l.length) : l.getD k .none ∈ l := by
  simp [List.getD, h]

noncomputable def LtOk (lt : Value → Value → Bool) (S : Value → Prop) (tl : List (Addr × Obj)) : Prop :=
  ∀ x y, S x → S y → ∀ (prog : Program) (w : World) (A : Around) (E : Value → Shared → Prop) (s : Shared) (Q : Value → Shared → Prop),
    (∀ p ∈ tl, s.heap.get? p.1 = some p.2) → A.units < cLine → Q (.bool (lt x y)) s → wpAny (model prog w) A (compareOp .Lt x y) Q E s
theorem LtOk.use {lt : Value → Value → Bool} {S : Value → Prop} {tl : List (Addr × Obj)} {x y : Value} {prog : Program} {w : World} {A : Around} {E : Value → Shared → Prop} {s : Shared} {Q : Value → Shared → Prop} {h₀ : Heap} {L D : Addr} {o : Obj}
    (h : LtOk lt S tl) (N : News h₀ L s.heap ((D, o) :: tl)) (hx : S x) (hy : S y) (hu : A.units < cLine) (hq : Q (.bool (lt x y)) s) : wpAny (model prog w) A (compareOp .Lt x y) Q E s :=
  h x y hx hy prog w A E s Q (fun p hp => (N p (.tail _ hp)).1) hu hq

section
variable {prog : Program} {w : World} {A : Around} {E : Value → Shared → Prop} {s : Shared}
theorem shr_one {q : Nat} {t u : Tok} {Q : Value → Shared → Prop} (hq : 0 < q) (h : Q (.int (((q - 1) / 2 : Nat) : Int) s.toks) { s with toks := s.toks + 1 }) :
    wpAny (model prog w) A (binaryOp .RShift (.int ((q : Int) - 1) t) (.int 1 u)) Q E s := by
  refine rshift_int (by decide) ?_
  have e : ((q : Int) - 1).fdiv (2 ^ (1 : Int).toNat) = (((q - 1) / 2 : Nat) : Int) := by
    show ((q : Int) - 1).fdiv 2 = _
    rw [Int.fdiv_eq_ediv_of_nonneg _ (by decide)]
    lia
  rw [e]; exact h

theorem at_len {h₀ : Heap} {L D : Addr} {news : List (Addr × Obj)} {its : List Value} {n : Nat} {Q : Value → Shared → Prop} (N : News h₀ L s.heap news) (hm : (D, listOf its.toArray n) ∈ news) (hz : its.length < 2 ^ 30)
    (h : Q (.int (its.length : Int) (s.toks + 1)) { s with toks := s.toks + 1 + 1 }) : wpAny (model prog w) A (call (.builtin "len") [.ref D]) Q E s := by
  refine PyProof.Rows.len_list (PySem.IsL.isList (n := n) (N _ hm).1) (by simp; lia) ?_
  simpa using h

noncomputable def WStep (P : Shared → Prop) (Q : Flow → Shared → Prop) (f : Flow) (s : Shared) : Prop := match f with
  | .brk => Q .next s
  | .ret v => Q (.ret v) s
  | _ => Hold (P s)
theorem while_c {env : Env} {test : Expr} {body : List Stmt} {pos : Pos} {Q : Flow → Shared → Prop} (P : Nat → Shared → Prop) (n₀ : Nat) (h0 : P n₀ s)
    (turn : ∀ n s₁, P n s₁ → wpAny (model prog w) A (isTrue test env (eval test env)) (fun b s₂ =>
        if b = true then wpAny (model prog w) A (execs body env) (WStep (fun s₃ => ∃ n', n' < n ∧ P n' s₃) Q) E s₂ else Q .next s₂) E s₁)
    (hE : PassesOwn (model prog w) A env E := by passes_own) :
    wpAny (model prog w) A (exec (.While test body [] pos) env) Q E s := by
  refine wpAny_While (codeAny_whileLoop P ?_ n₀ h0)
  intro n s' hP
  refine wpAny_mono (turn n s' hP) (fun b s₂ h₂ => ?_) hE
  cases b with
  | false =>
    simp only [Bool.false_eq_true, if_false] at h₂ ⊢
    exact wpAny_execs_nil h₂
  | true =>
    simp only [if_true] at h₂ ⊢
    refine wpAny_mono h₂ (fun f s₃ h₃ => ?_) hE
    cases f with
    | next => exact h₃
    | cont => exact h₃
    | brk => exact h₃
    | ret v => exact h₃
inductive WEnd (g : Heap) (L D : Addr) (n : Nat) (tl : List (Addr × Obj)) (s : Shared) (J : Nat → (Str → Option Value) → List Value → Prop) (q : Nat) (s₃ : Shared) : Prop
  | mk (q' : Nat) (h' : Heap) (tk' : Nat) (m' : Str → Option Value) (cur' : List Value) (a1 : q' < q) (a2 : s₃ = { s with heap := h', toks := tk' }) (a3 : Fr g L h' m') (a4 : News g L h' ((D, listOf cur'.toArray n) :: tl)) (a5 : J q' m' cur') : WEnd g L D n tl s J q s₃
inductive WlJ (g : Heap) (L D : Addr) (n : Nat) (tl : List (Addr × Obj)) (s : Shared) (J : Nat → (Str → Option Value) → List Value → Prop) (q : Nat) (s' : Shared) : Prop
  | mk (h₁ : Heap) (tk₁ : Nat) (m₁ : Str → Option Value) (cur : List Value) (a1 : s' = { s with heap := h₁, toks := tk₁ }) (a2 : Fr g L h₁ m₁) (a3 : News g L h₁ ((D, listOf cur.toArray n) :: tl)) (a4 : J q m₁ cur) : WlJ g L D n tl s J q s'
theorem while_l {env : Env} {test : Expr} {body : List Stmt} {pos : Pos} {Q : Flow → Shared → Prop} {g : Heap} {L D : Addr} {n : Nat} {tl : List (Addr × Obj)} {its : List Value} {m : Str → Option Value}
    (J : Nat → (Str → Option Value) → List Value → Prop) (q₀ : Nat) (F : Fr g L s.heap m) (N : News g L s.heap ((D, listOf its.toArray n) :: tl)) (h0 : J q₀ m its)
    (turn : ∀ q m₁ cur h₁ tk₁, Fr g L h₁ m₁ → News g L h₁ ((D, listOf cur.toArray n) :: tl) → J q m₁ cur → wpAny (model prog w) A (isTrue test env (eval test env)) (fun b s₂ =>
        if b = true then wpAny (model prog w) A (execs body env) (WStep (WEnd g L D n tl s J q) Q) E s₂ else Q .next s₂) E { s with heap := h₁, toks := tk₁ })
    (hE : PassesOwn (model prog w) A env E := by passes_own) :
    wpAny (model prog w) A (exec (.While test body [] pos) env) Q E s := by
  refine while_c (WlJ g L D n tl s J) q₀ ⟨_, _, _, _, rfl, F, N, h0⟩ ?_ hE
  rintro q _ ⟨h₁, tk₁, m₁, cur, rfl, F₁, N₁, J₁⟩
  refine wpAny_mono (turn q m₁ cur h₁ tk₁ F₁ N₁ J₁) (fun b s₂ h₂ => ?_) fun _ _ e => e
  cases b with
  | false => exact h₂
  | true =>
    simp only [if_true] at h₂ ⊢
    refine wpAny_mono h₂ (fun f s₃ h₃ => ?_) fun _ _ e => e
    have conv : WEnd g L D n tl s J q s₃ → ∃ n', n' < q ∧ WlJ g L D n tl s J n' s₃ := by
      rintro ⟨q', h', tk', m', cur', hq, rfl, F', N', hJ⟩
      exact ⟨q', hq, h', tk', m', cur', rfl, F', N', hJ⟩
    cases f with
    | next => exact conv h₃
    | cont => exact conv h₃
    | brk => exact h₃
    | ret v => exact h₃
theorem wend {g : Heap} {L D : Addr} {n : Nat} {tl : List (Addr × Obj)} {J : Nat → (Str → Option Value) → List Value → Prop} {q : Nat} {h' : Heap} {tk' : Nat} {m' : Str → Option Value} {cur' : List Value} (q' : Nat) (hq : q' < q)
    (F : Fr g L h' m') (N : News g L h' ((D, listOf cur'.toArray n) :: tl)) (hJ : J q' m' cur') : WEnd g L D n tl s J q { s with heap := h', toks := tk' } := ⟨q', h', tk', m', cur', hq, rfl, F, N, hJ⟩
end
end Mine
end

section
-- SiftA, SiftB, SiftM
open PySem PySem.W PyProof.Rows PySem.Calls
set_option Elab.async false
set_option maxRecDepth 100000
set_option maxHeartbeats 8000000
set_option pp.deepTerms false
set_option pp.deepTerms.threshold 4
set_option pp.proofs false
namespace Mine

noncomputable def sdF (lt : Value → Value → Bool) (i : Nat) (x : Value) (cur : List Value) (p : Nat) : List Value :=
  if _h : i < p then
    if lt x (cur.getD ((p - 1) / 2) .none) = true then sdF lt i x (cur.set p (cur.getD ((p - 1) / 2) .none)) ((p - 1) / 2)
    else cur.set p x
  else cur.set p x
termination_by p
theorem sdF_yes {lt : Value → Value → Bool} {i : Nat} {x : Value} {cur : List Value} {p : Nat} (h : i < p) (hl : lt x (cur.getD ((p - 1) / 2) .none) = true) :
    sdF lt i x cur p = sdF lt i x (cur.set p (cur.getD ((p - 1) / 2) .none)) ((p - 1) / 2) := by
  rw [sdF, dif_pos h, if_pos hl]
theorem sdF_no {lt : Value → Value → Bool} {i : Nat} {x : Value} {cur : List Value} {p : Nat} (hl : lt x (cur.getD ((p - 1) / 2) .none) = false) :
    sdF lt i x cur p = cur.set p x := by
  rw [sdF]
  by_cases h : i < p
  · rw [dif_pos h, if_neg (by rw [hl]; exact Bool.false_ne_true)]
  · rw [dif_neg h]
theorem sdF_end {lt : Value → Value → Bool} {i : Nat} {x : Value} {cur : List Value} {p : Nat} (h : ¬ i < p) : sdF lt i x cur p = cur.set p x := by
  rw [sdF, dif_neg h]

local macro_rules | `(tactic| walk_at "subscriptTail") => `(tactic| refine Mine.hold ?_)
local macro_rules | `(tactic| walk_at "exec While Compare cons nil") => `(tactic| refine Mine.hold ?_)
local macro_rules | `(tactic| walk_at "binaryOp RShift int int") => `(tactic| refine Mine.hold ?_)
local macro_rules | `(tactic| walk_at "setItem ref int") => `(tactic| refine Mine.hold ?_)
local macro_rules | `(tactic| walk_at "WStep") => `(tactic| refine Mine.hold ?_)
local macro_rules | `(tactic| walk_at "compareOp Lt") => `(tactic| refine Mine.hold ?_)

inductive SdJ (lt : Value → Value → Bool) (S : Value → Prop) (its : List Value) (i j : Nat) (D : Addr) (n : Nat) (tl : List (Addr × Obj)) (t : Tok) (s : Shared) (g' : Heap) (L' : Addr) (q : Nat) (s' : Shared) : Prop
  | mk (cur : List Value) (tp : Tok) (h₁ : Heap) (tk : Nat) (m₁ : Str → Option Value) (a1 : s' = { s with heap := h₁, toks := tk }) (a2 : Fr g' L' h₁ m₁) (a3 : News g' L' h₁ ((D, listOf cur.toArray n) :: tl))
    (a4 : cur.length = its.length) (a5 : q < its.length) (a6 : ∀ x ∈ cur, S x) (a7 : sdF lt i (its.getD j .none) cur q = sdF lt i (its.getD j .none) its j)
    (m1 : m₁ (Str.ofString "heap") = some (.ref D)) (m2 : m₁ (Str.ofString "startpos") = some (.int i t)) (m3 : m₁ (Str.ofString "pos") = some (.int q tp)) (m4 : m₁ (Str.ofString "newitem") = some (its.getD j .none)) : SdJ lt S its i j D n tl t s g' L' q s'
theorem siftdown_c {w : World} {loose : List Str} {mean : ExcName → Option Value} {mg mb : Str → Option Value}
    {dp un : Nat} {gd : Option (List Code)} {cn : Str} {cs : Scope} {a : Addr} {ccd : Value} {cl : List (Str × Addr)} {outer : List Env} {A₀ : Around} {base h₀ : Heap} {L : Addr} {m : Str → Option Value} {s : Shared} {Q E : Value → Shared → Prop}
    {D : Addr} {its : List Value} {n : Nat} {tl : List (Addr × Obj)} {i j : Nat} {t u : Tok} {lt : Value → Value → Bool} {S : Value → Prop}
    (B : Below A₀ base outer h₀) (F : Fr h₀ L s.heap m) (X : (hd1.heap_39 w.params).In h₀) (N : News h₀ L s.heap ((D, listOf its.toArray n) :: tl)) (T : Top hd1.view_39 loose mean mg mb h₀)
    (hk : cs.kind = .function) (hd : dp + 1 < recursionLimit) (hu : un + 8 < cLine)
    (hj : j < its.length) (hz : its.length < 64) (hlt : LtOk lt S tl) (hS : ∀ x ∈ its, S x) (hD : ∀ p ∈ tl, p.1 ≠ D)
    (ret : ∀ h' tk', Fr h₀ L h' m → News h₀ L h' ((D, listOf (sdF lt i (its.getD j .none) its j).toArray n) :: tl) → Q .none { s with heap := h', toks := tk' }) :
    wpAny (model PySem.Challenge.rw_nb0235_01.row.prog w) (ktrTop dp un gd cn cs L a ccd cl outer) (call (.ref 63) [.ref D, .int i t, .int j u]) Q E s := by
  revert X; k_fill; intro X
  refine wpAny_call ?_
  k_dflt ktr_enter
  k_steps
  all_goals (repeat' (first
    | (unfold Hold; (with_reducible show wpAny _ _ (subscriptTail _ _ (Value.ref _) (Value.int _ _)) _ _ _); (with_unfolding_all refine' at_sub ?k1 ?k2 ?k3 ?k4 ?k5 ?_ ?k6; (case k1 => k_asm); (case k2 => k_mem); (case k3 => lia); (case k4 => lia); (case k5 => lia); (case k6 => with_unfolding_all rfl)); k_steps)
    | (unfold Hold; (with_reducible show wpAny _ _ (setItem (Value.ref _) (Value.int _ _) _) _ _ _); (refine' at_set ?k1 ?k2 ?k3 ?k4 ?k5 ?k6 ?_; (case k1 => k_asm); (case k2 => k_asm); (case k3 => assumption); (case k4 => lia); (case k5 => lia); (case k6 => lia)); intro _ _ _; (try k_sweep); k_steps)
    | (unfold Hold; (with_reducible show wpAny _ _ (call (Value.builtin _) [Value.ref _]) _ _ _); (refine' at_len ?k1 ?k2 ?k3 ?_; (case k1 => k_asm); (case k2 => k_mem); (case k3 => lia)); k_steps)
    | (unfold Hold; (with_reducible show wpAny _ _ (binaryOp _ (Value.int _ _) (Value.int _ _)) _ _ _); refine shr_one (by lia) ?_; k_steps)
    | (unfold Hold; (with_reducible show Mine.WStep _ _ _ _); dsimp only [WStep]; k_steps)))
  unfold Hold
  rename_i g' L' _ _ _ _ _ _ F' N'
  refine while_c (SdJ lt S its i j D n tl t s g' L') j
    ⟨its, u, _, _, _, rfl, F', N', rfl, hj, hS, rfl, rfl, rfl, rfl, rfl⟩ ?_
  rintro q _ ⟨cur, tp, h₁, tk₁, m₁, rfl, F₁, N₁, hcl, hq, hcS, hsd, m1, m2, m3, m4⟩
  replace F₁ := puts F₁ [(Str.ofString "heap", .ref D), (Str.ofString "startpos", .int i t), (Str.ofString "pos", .int q tp), (Str.ofString "newitem", its.getD j .none)] (pm m1 (pm m2 (pm m3 (pm m4 pn))))
  dsimp only [putM] at F₁
  clear F' N' F N
  k_steps
  all_goals (repeat' (first
    | (unfold Hold; (with_reducible show wpAny _ _ (subscriptTail _ _ (Value.ref _) (Value.int _ _)) _ _ _); (with_unfolding_all refine' at_sub ?k1 ?k2 ?k3 ?k4 ?k5 ?_ ?k6; (case k1 => k_asm); (case k2 => k_mem); (case k3 => lia); (case k4 => lia); (case k5 => lia); (case k6 => with_unfolding_all rfl)); k_steps)
    | (unfold Hold; (with_reducible show wpAny _ _ (setItem (Value.ref _) (Value.int _ _) _) _ _ _); (refine' at_set ?k1 ?k2 ?k3 ?k4 ?k5 ?k6 ?_; (case k1 => k_asm); (case k2 => k_asm); (case k3 => assumption); (case k4 => lia); (case k5 => lia); (case k6 => lia)); intro _ _ _; (try k_sweep); k_steps)
    | (unfold Hold; (with_reducible show wpAny _ _ (call (Value.builtin _) [Value.ref _]) _ _ _); (refine' at_len ?k1 ?k2 ?k3 ?_; (case k1 => k_asm); (case k2 => k_mem); (case k3 => lia)); k_steps)
    | (unfold Hold; (with_reducible show wpAny _ _ (binaryOp _ (Value.int _ _) (Value.int _ _)) _ _ _); refine shr_one (by lia) ?_; k_steps)
    | (unfold Hold; (with_reducible show Mine.WStep _ _ _ _); dsimp only [WStep]; k_steps)))
  all_goals (try unfold Hold)
  · refine hlt.use (by assumption) (hS _ (getD_mem hj)) (hcS _ (getD_mem (by lia))) (lim (b := 3) hu (by decide)) ?_
    k_steps
    all_goals (repeat' (first
      | (unfold Hold; (with_reducible show wpAny _ _ (subscriptTail _ _ (Value.ref _) (Value.int _ _)) _ _ _); (with_unfolding_all refine' at_sub ?k1 ?k2 ?k3 ?k4 ?k5 ?_ ?k6; (case k1 => k_asm); (case k2 => k_mem); (case k3 => lia); (case k4 => lia); (case k5 => lia); (case k6 => with_unfolding_all rfl)); k_steps)
      | (unfold Hold; (with_reducible show wpAny _ _ (setItem (Value.ref _) (Value.int _ _) _) _ _ _); (refine' at_set ?k1 ?k2 ?k3 ?k4 ?k5 ?k6 ?_; (case k1 => k_asm); (case k2 => k_asm); (case k3 => assumption); (case k4 => lia); (case k5 => lia); (case k6 => lia)); intro _ _ _; (try k_sweep); k_steps)
      | (unfold Hold; (with_reducible show wpAny _ _ (call (Value.builtin _) [Value.ref _]) _ _ _); (refine' at_len ?k1 ?k2 ?k3 ?_; (case k1 => k_asm); (case k2 => k_mem); (case k3 => lia)); k_steps)
      | (unfold Hold; (with_reducible show wpAny _ _ (binaryOp _ (Value.int _ _) (Value.int _ _)) _ _ _); refine shr_one (by lia) ?_; k_steps)
      | (unfold Hold; (with_reducible show Mine.WStep _ _ _ _); dsimp only [WStep]; k_steps)))
    all_goals (try unfold Hold)
    · rename_i F9 N9
      have hl8 : lt (its.getD j .none) (cur.getD ((q - 1) / 2) .none) = true := by assumption
      refine ⟨(q - 1) / 2, by lia, cur.set q (cur.getD ((q - 1) / 2) .none), _, _, _, _, rfl, F9, N9, by simpa using hcl, by lia, ?_, ?_, rfl, rfl, rfl, rfl⟩
      · intro x hx
        rcases List.mem_or_eq_of_mem_set hx with hx | rfl
        · exact hcS x hx
        · exact hcS _ (getD_mem (by lia))
      · rw [← hsd]
        exact (sdF_yes (by lia) hl8).symm
    · have hl8 : lt (its.getD j .none) (cur.getD ((q - 1) / 2) .none) = false := by assumption
      refine ret _ _ (by k_asm) ?_
      rw [← hsd, sdF_no hl8]
      k_asm
  · refine ret _ _ (by k_asm) ?_
    rw [← hsd, sdF_end (by lia)]
    k_asm
noncomputable def pick (lt : Value → Value → Bool) (cur : List Value) (c : Nat) : Nat := if c + 1 < cur.length ∧ lt (cur.getD c .none) (cur.getD (c + 1) .none) = false then c + 1 else c
theorem pick_ge {lt : Value → Value → Bool} {cur : List Value} {c : Nat} : c ≤ pick lt cur c := by unfold pick; split <;> lia
theorem pick_lt {lt : Value → Value → Bool} {cur : List Value} {c : Nat} (h : c < cur.length) : pick lt cur c < cur.length := by unfold pick; split <;> lia
noncomputable def suL (lt : Value → Value → Bool) (cur : List Value) (p : Nat) : List Value × Nat :=
  if _h : 2 * p + 1 < cur.length then suL lt (cur.set p (cur.getD (pick lt cur (2 * p + 1)) .none)) (pick lt cur (2 * p + 1)) else (cur, p)
termination_by cur.length - p
decreasing_by
  have := pick_ge (lt := lt) (cur := cur) (c := 2 * p + 1)
  simp only [List.length_set]
  lia
theorem suL_go {lt : Value → Value → Bool} {cur : List Value} {p : Nat} (h : 2 * p + 1 < cur.length) : suL lt cur p = suL lt (cur.set p (cur.getD (pick lt cur (2 * p + 1)) .none)) (pick lt cur (2 * p + 1)) := by
  rw [suL, dif_pos h]
theorem suL_end {lt : Value → Value → Bool} {cur : List Value} {p : Nat} (h : ¬ 2 * p + 1 < cur.length) : suL lt cur p = (cur, p) := by
  rw [suL, dif_neg h]
noncomputable def suF (lt : Value → Value → Bool) (its : List Value) (p : Nat) : List Value :=
  sdF lt p (its.getD p .none) ((suL lt its p).1.set (suL lt its p).2 (its.getD p .none)) (suL lt its p).2

local macro_rules | `(tactic| walk_at "call builtin:len") => `(tactic| refine Mine.hold ?_)
local macro_rules | `(tactic| walk_at "call ref") => `(tactic| refine Mine.hold ?_)

inductive SuJ (lt : Value → Value → Bool) (S : Value → Prop) (its : List Value) (j : Nat) (D : Addr) (u : Tok) (f : Nat) (m₁ : Str → Option Value) (cur : List Value) : Prop
  | mk (p : Nat) (ip ic : Int) (tp tc te : Tok) (a1 : ip = p) (a2 : ic = 2 * (p : Int) + 1) (a3 : f = its.length - p) (a4 : cur.length = its.length) (a5 : p < its.length) (a6 : ∀ x ∈ cur, S x) (a7 : suL lt cur p = suL lt its j)
    (m1 : m₁ (Str.ofString "heap") = some (.ref D)) (m2 : m₁ (Str.ofString "startpos") = some (.int j u)) (m3 : m₁ (Str.ofString "pos") = some (.int ip tp)) (m4 : m₁ (Str.ofString "newitem") = some (its.getD j .none))
    (m5 : m₁ (Str.ofString "childpos") = some (.int ic tc)) (m6 : m₁ (Str.ofString "endpos") = some (.int (its.length : Int) te)) : SuJ lt S its j D u f m₁ cur
theorem siftup_c {w : World} {loose : List Str} {mean : ExcName → Option Value} {mg mb : Str → Option Value}
    {dp un : Nat} {gd : Option (List Code)} {cn : Str} {cs : Scope} {a : Addr} {ccd : Value} {cl : List (Str × Addr)} {outer : List Env} {A₀ : Around} {base h₀ : Heap} {L : Addr} {m : Str → Option Value} {s : Shared} {Q E : Value → Shared → Prop}
    {D : Addr} {its : List Value} {n : Nat} {tl : List (Addr × Obj)} {j : Nat} {u : Tok} {lt : Value → Value → Bool} {S : Value → Prop}
    (B : Below A₀ base outer h₀) (F : Fr h₀ L s.heap m) (X : (hd1.heap_39 w.params).In h₀) (N : News h₀ L s.heap ((D, listOf its.toArray n) :: tl)) (T : Top hd1.view_39 loose mean mg mb h₀)
    (hk : cs.kind = .function) (hd : dp + 2 < recursionLimit) (hu : un + 16 < cLine)
    (hj : j < its.length) (hz : its.length < 64) (hlt : LtOk lt S tl) (hS : ∀ x ∈ its, S x) (hD : ∀ p ∈ tl, p.1 ≠ D)
    (ret : ∀ h' tk', Fr h₀ L h' m → News h₀ L h' ((D, listOf (suF lt its j).toArray n) :: tl) → Q .none { s with heap := h', toks := tk' }) :
    wpAny (model PySem.Challenge.rw_nb0235_01.row.prog w) (ktrTop dp un gd cn cs L a ccd cl outer) (call (.ref 70) [.ref D, .int j u]) Q E s := by
  revert X; k_fill; intro X
  refine wpAny_call ?_
  k_dflt ktr_enter
  k_steps
  all_goals (repeat' (first
    | (unfold Hold; (with_reducible show wpAny _ _ (subscriptTail _ _ (Value.ref _) (Value.int _ _)) _ _ _); (with_unfolding_all refine' at_sub ?k1 ?k2 ?k3 ?k4 ?k5 ?_ ?k6; (case k1 => k_asm); (case k2 => k_mem); (case k3 => lia); (case k4 => lia); (case k5 => lia); (case k6 => with_unfolding_all rfl)); k_steps)
    | (unfold Hold; (with_reducible show wpAny _ _ (setItem (Value.ref _) (Value.int _ _) _) _ _ _); (refine' at_set ?k1 ?k2 ?k3 ?k4 ?k5 ?k6 ?_; (case k1 => k_asm); (case k2 => k_asm); (case k3 => assumption); (case k4 => lia); (case k5 => lia); (case k6 => lia)); intro _ _ _; (try k_sweep); k_steps)
    | (unfold Hold; (with_reducible show wpAny _ _ (call (Value.builtin _) [Value.ref _]) _ _ _); (refine' at_len ?k1 ?k2 ?k3 ?_; (case k1 => k_asm); (case k2 => k_mem); (case k3 => lia)); k_steps)
    | (unfold Hold; (with_reducible show wpAny _ _ (binaryOp _ (Value.int _ _) (Value.int _ _)) _ _ _); refine shr_one (by lia) ?_; k_steps)
    | (unfold Hold; (with_reducible show Mine.WStep _ _ _ _); dsimp only [WStep]; k_steps)))
  unfold Hold
  refine while_l (SuJ lt S its j D u) (its.length - j) (by k_asm) (by k_asm)
    ⟨j, _, _, _, _, _, rfl, rfl, rfl, rfl, hj, hS, rfl, rfl, rfl, rfl, rfl, rfl, rfl⟩ ?_
  rintro f m₁ cur h₁ tk₁ F₁ N₁ ⟨p, _, _, tp, tc, te, rfl, rfl, rfl, hcl, hp, hcS, hsu, m1, m2, m3, m4, m5, m6⟩
  replace F₁ := puts F₁ [(Str.ofString "heap", .ref D), (Str.ofString "startpos", .int j u), (Str.ofString "pos", .int p tp), (Str.ofString "newitem", its.getD j .none), (Str.ofString "childpos", .int (2 * (p : Int) + 1) tc), (Str.ofString "endpos", .int (its.length : Int) te)] (pm m1 (pm m2 (pm m3 (pm m4 (pm m5 (pm m6 pn))))))
  dsimp only [putM] at F₁
  clear F N
  have e1 : (2 * (p : Int) + 1).toNat = 2 * p + 1 := by lia
  have e2 : (2 * (p : Int) + 1 + 1).toNat = 2 * p + 2 := by lia
  have hset : ∀ v, S v → ∀ x ∈ cur.set p v, S x := fun v hv x hx => by
    rcases List.mem_or_eq_of_mem_set hx with hx | rfl
    · exact hcS x hx
    · exact hv
  k_steps
  all_goals (repeat' (first
    | (unfold Hold; (with_reducible show wpAny _ _ (subscriptTail _ _ (Value.ref _) (Value.int _ _)) _ _ _); (with_unfolding_all refine' at_sub ?k1 ?k2 ?k3 ?k4 ?k5 ?_ ?k6; (case k1 => k_asm); (case k2 => k_mem); (case k3 => lia); (case k4 => lia); (case k5 => lia); (case k6 => with_unfolding_all rfl)); k_steps)
    | (unfold Hold; (with_reducible show wpAny _ _ (setItem (Value.ref _) (Value.int _ _) _) _ _ _); (refine' at_set ?k1 ?k2 ?k3 ?k4 ?k5 ?k6 ?_; (case k1 => k_asm); (case k2 => k_asm); (case k3 => assumption); (case k4 => lia); (case k5 => lia); (case k6 => lia)); intro _ _ _; (try k_sweep); k_steps)
    | (unfold Hold; (with_reducible show wpAny _ _ (call (Value.builtin _) [Value.ref _]) _ _ _); (refine' at_len ?k1 ?k2 ?k3 ?_; (case k1 => k_asm); (case k2 => k_mem); (case k3 => lia)); k_steps)
    | (unfold Hold; (with_reducible show wpAny _ _ (binaryOp _ (Value.int _ _) (Value.int _ _)) _ _ _); refine shr_one (by lia) ?_; k_steps)
    | (unfold Hold; (with_reducible show Mine.WStep _ _ _ _); dsimp only [WStep]; k_steps)))
  all_goals (try unfold Hold)
  · rw [e1, e2]
    refine hlt.use (by assumption) (hcS _ (getD_mem (by lia))) (hcS _ (getD_mem (by lia))) (lim (b := 3) hu (by decide)) ?_
    k_steps
    all_goals (repeat' (first
      | (unfold Hold; (with_reducible show wpAny _ _ (subscriptTail _ _ (Value.ref _) (Value.int _ _)) _ _ _); (with_unfolding_all refine' at_sub ?k1 ?k2 ?k3 ?k4 ?k5 ?_ ?k6; (case k1 => k_asm); (case k2 => k_mem); (case k3 => lia); (case k4 => lia); (case k5 => lia); (case k6 => with_unfolding_all rfl)); k_steps)
      | (unfold Hold; (with_reducible show wpAny _ _ (setItem (Value.ref _) (Value.int _ _) _) _ _ _); (refine' at_set ?k1 ?k2 ?k3 ?k4 ?k5 ?k6 ?_; (case k1 => k_asm); (case k2 => k_asm); (case k3 => assumption); (case k4 => lia); (case k5 => lia); (case k6 => lia)); intro _ _ _; (try k_sweep); k_steps)
      | (unfold Hold; (with_reducible show wpAny _ _ (call (Value.builtin _) [Value.ref _]) _ _ _); (refine' at_len ?k1 ?k2 ?k3 ?_; (case k1 => k_asm); (case k2 => k_mem); (case k3 => lia)); k_steps)
      | (unfold Hold; (with_reducible show wpAny _ _ (binaryOp _ (Value.int _ _) (Value.int _ _)) _ _ _); refine shr_one (by lia) ?_; k_steps)
      | (unfold Hold; (with_reducible show Mine.WStep _ _ _ _); dsimp only [WStep]; k_steps)))
    all_goals (try unfold Hold)
    all_goals (rename Fr _ _ _ _ => F9; rename News _ _ _ _ => N9)
    · have hl8 : lt (cur.getD (2 * p + 1) .none) (cur.getD (2 * p + 2) .none) = true := by assumption
      have hpk : pick lt cur (2 * p + 1) = 2 * p + 1 := by unfold pick; rw [if_neg fun hc => absurd (hl8.symm.trans hc.2) (by decide)]
      have hgo := suL_go (lt := lt) (cur := cur) (p := p) (by lia)
      rw [hpk] at hgo
      rw [e1] at N9
      refine wend (its.length - (2 * p + 1)) (by lia) F9 N9 ⟨2 * p + 1, _, _, _, _, _, ?_, ?_, rfl, by simpa using hcl, by lia, hset _ (hcS _ (getD_mem (by lia))), hgo.symm.trans hsu, rfl, rfl, rfl, rfl, rfl, rfl⟩
      · lia
      · lia
    · have hl8 : lt (cur.getD (2 * p + 1) .none) (cur.getD (2 * p + 2) .none) = false := by assumption
      have hpk : pick lt cur (2 * p + 1) = 2 * p + 2 := by unfold pick; rw [if_pos ⟨by lia, hl8⟩]
      have hgo := suL_go (lt := lt) (cur := cur) (p := p) (by lia)
      rw [hpk] at hgo
      rw [e2] at N9
      refine wend (its.length - (2 * p + 2)) (by lia) F9 N9 ⟨2 * p + 2, _, _, _, _, _, ?_, ?_, rfl, by simpa using hcl, by lia, hset _ (hcS _ (getD_mem (by lia))), hgo.symm.trans hsu, rfl, rfl, rfl, rfl, rfl, rfl⟩
      · lia
      · lia
  · (rename Fr _ _ _ _ => F9; rename News _ _ _ _ => N9)
    have hpk : pick lt cur (2 * p + 1) = 2 * p + 1 := by unfold pick; rw [if_neg (by lia)]
    have hgo := suL_go (lt := lt) (cur := cur) (p := p) (by lia)
    rw [hpk] at hgo
    rw [e1] at N9
    refine wend (its.length - (2 * p + 1)) (by lia) F9 N9 ⟨2 * p + 1, _, _, _, _, _, ?_, ?_, rfl, by simpa using hcl, by lia, hset _ (hcS _ (getD_mem (by lia))), hgo.symm.trans hsu, rfl, rfl, rfl, rfl, rfl, rfl⟩
    · lia
    · lia
  · have hend := suL_end (lt := lt) (cur := cur) (p := p) (by lia)
    rw [hsu] at hend
    refine siftdown_c (its := cur.set p (its.getD j .none)) (by k_asm) (by k_asm) (by k_asm) (by k_asm) (by k_asm) rfl (lim (b := 2) hd (by decide)) (lim (b := 11) hu (by decide)) (by simpa using by lia) (by simpa using by lia) hlt (hset _ (hS _ (getD_mem hj))) hD ?_
    intro h' tk' F' N'
    have e3 : (cur.set p (its.getD j .none)).getD p .none = its.getD j .none := by simp [List.getD, hcl, hp]
    rw [e3] at N'
    k_steps
    all_goals (repeat' (first
      | (unfold Hold; (with_reducible show wpAny _ _ (subscriptTail _ _ (Value.ref _) (Value.int _ _)) _ _ _); (with_unfolding_all refine' at_sub ?k1 ?k2 ?k3 ?k4 ?k5 ?_ ?k6; (case k1 => k_asm); (case k2 => k_mem); (case k3 => lia); (case k4 => lia); (case k5 => lia); (case k6 => with_unfolding_all rfl)); k_steps)
      | (unfold Hold; (with_reducible show wpAny _ _ (setItem (Value.ref _) (Value.int _ _) _) _ _ _); (refine' at_set ?k1 ?k2 ?k3 ?k4 ?k5 ?k6 ?_; (case k1 => k_asm); (case k2 => k_asm); (case k3 => assumption); (case k4 => lia); (case k5 => lia); (case k6 => lia)); intro _ _ _; (try k_sweep); k_steps)
      | (unfold Hold; (with_reducible show wpAny _ _ (call (Value.builtin _) [Value.ref _]) _ _ _); (refine' at_len ?k1 ?k2 ?k3 ?_; (case k1 => k_asm); (case k2 => k_mem); (case k3 => lia)); k_steps)
      | (unfold Hold; (with_reducible show wpAny _ _ (binaryOp _ (Value.int _ _) (Value.int _ _)) _ _ _); refine shr_one (by lia) ?_; k_steps)
      | (unfold Hold; (with_reducible show Mine.WStep _ _ _ _); dsimp only [WStep]; k_steps)))
    refine ret _ _ (by k_asm) ?_
    unfold suF
    rw [hend]
    k_asm

theorem siftdownM_c {w : World} {loose : List Str} {mean : ExcName → Option Value} {mg mb : Str → Option Value}
    {dp un : Nat} {gd : Option (List Code)} {cn : Str} {cs : Scope} {a : Addr} {ccd : Value} {cl : List (Str × Addr)} {outer : List Env} {A₀ : Around} {base h₀ : Heap} {L : Addr} {m : Str → Option Value} {s : Shared} {Q E : Value → Shared → Prop}
    {D : Addr} {its : List Value} {n : Nat} {tl : List (Addr × Obj)} {i j : Nat} {t u : Tok} {lt : Value → Value → Bool} {S : Value → Prop}
    (B : Below A₀ base outer h₀) (F : Fr h₀ L s.heap m) (X : (hd1.heap_39 w.params).In h₀) (N : News h₀ L s.heap ((D, listOf its.toArray n) :: tl)) (T : Top hd1.view_39 loose mean mg mb h₀)
    (hk : cs.kind = .function) (hd : dp + 1 < recursionLimit) (hu : un + 8 < cLine)
    (hj : j < its.length) (hz : its.length < 64) (hlt : LtOk lt S tl) (hS : ∀ x ∈ its, S x) (hD : ∀ p ∈ tl, p.1 ≠ D)
    (ret : ∀ h' tk', Fr h₀ L h' m → News h₀ L h' ((D, listOf (sdF (fun x y => lt y x) i (its.getD j .none) its j).toArray n) :: tl) → Q .none { s with heap := h', toks := tk' }) :
    wpAny (model PySem.Challenge.rw_nb0235_01.row.prog w) (ktrTop dp un gd cn cs L a ccd cl outer) (call (.ref 77) [.ref D, .int i t, .int j u]) Q E s := by
  revert X; k_fill; intro X
  refine wpAny_call ?_
  k_dflt ktr_enter
  k_steps
  all_goals (repeat' (first
    | (unfold Hold; (with_reducible show wpAny _ _ (subscriptTail _ _ (Value.ref _) (Value.int _ _)) _ _ _); (with_unfolding_all refine' at_sub ?k1 ?k2 ?k3 ?k4 ?k5 ?_ ?k6; (case k1 => k_asm); (case k2 => k_mem); (case k3 => lia); (case k4 => lia); (case k5 => lia); (case k6 => with_unfolding_all rfl)); k_steps)
    | (unfold Hold; (with_reducible show wpAny _ _ (setItem (Value.ref _) (Value.int _ _) _) _ _ _); (refine' at_set ?k1 ?k2 ?k3 ?k4 ?k5 ?k6 ?_; (case k1 => k_asm); (case k2 => k_asm); (case k3 => assumption); (case k4 => lia); (case k5 => lia); (case k6 => lia)); intro _ _ _; (try k_sweep); k_steps)
    | (unfold Hold; (with_reducible show wpAny _ _ (call (Value.builtin _) [Value.ref _]) _ _ _); (refine' at_len ?k1 ?k2 ?k3 ?_; (case k1 => k_asm); (case k2 => k_mem); (case k3 => lia)); k_steps)
    | (unfold Hold; (with_reducible show wpAny _ _ (binaryOp _ (Value.int _ _) (Value.int _ _)) _ _ _); refine shr_one (by lia) ?_; k_steps)
    | (unfold Hold; (with_reducible show Mine.WStep _ _ _ _); dsimp only [WStep]; k_steps)))
  unfold Hold
  rename_i g' L' _ _ _ _ _ _ F' N'
  refine while_c (SdJ (fun x y => lt y x) S its i j D n tl t s g' L') j
    ⟨its, u, _, _, _, rfl, F', N', rfl, hj, hS, rfl, rfl, rfl, rfl, rfl⟩ ?_
  rintro q _ ⟨cur, tp, h₁, tk₁, m₁, rfl, F₁, N₁, hcl, hq, hcS, hsd, m1, m2, m3, m4⟩
  replace F₁ := puts F₁ [(Str.ofString "heap", .ref D), (Str.ofString "startpos", .int i t), (Str.ofString "pos", .int q tp), (Str.ofString "newitem", its.getD j .none)] (pm m1 (pm m2 (pm m3 (pm m4 pn))))
  dsimp only [putM] at F₁
  clear F' N' F N
  k_steps
  all_goals (repeat' (first
    | (unfold Hold; (with_reducible show wpAny _ _ (subscriptTail _ _ (Value.ref _) (Value.int _ _)) _ _ _); (with_unfolding_all refine' at_sub ?k1 ?k2 ?k3 ?k4 ?k5 ?_ ?k6; (case k1 => k_asm); (case k2 => k_mem); (case k3 => lia); (case k4 => lia); (case k5 => lia); (case k6 => with_unfolding_all rfl)); k_steps)
    | (unfold Hold; (with_reducible show wpAny _ _ (setItem (Value.ref _) (Value.int _ _) _) _ _ _); (refine' at_set ?k1 ?k2 ?k3 ?k4 ?k5 ?k6 ?_; (case k1 => k_asm); (case k2 => k_asm); (case k3 => assumption); (case k4 => lia); (case k5 => lia); (case k6 => lia)); intro _ _ _; (try k_sweep); k_steps)
    | (unfold Hold; (with_reducible show wpAny _ _ (call (Value.builtin _) [Value.ref _]) _ _ _); (refine' at_len ?k1 ?k2 ?k3 ?_; (case k1 => k_asm); (case k2 => k_mem); (case k3 => lia)); k_steps)
    | (unfold Hold; (with_reducible show wpAny _ _ (binaryOp _ (Value.int _ _) (Value.int _ _)) _ _ _); refine shr_one (by lia) ?_; k_steps)
    | (unfold Hold; (with_reducible show Mine.WStep _ _ _ _); dsimp only [WStep]; k_steps)))
  all_goals (try unfold Hold)
  · refine hlt.use (by assumption) (hcS _ (getD_mem (by lia))) (hS _ (getD_mem hj)) (lim (b := 3) hu (by decide)) ?_
    k_steps
    all_goals (repeat' (first
      | (unfold Hold; (with_reducible show wpAny _ _ (subscriptTail _ _ (Value.ref _) (Value.int _ _)) _ _ _); (with_unfolding_all refine' at_sub ?k1 ?k2 ?k3 ?k4 ?k5 ?_ ?k6; (case k1 => k_asm); (case k2 => k_mem); (case k3 => lia); (case k4 => lia); (case k5 => lia); (case k6 => with_unfolding_all rfl)); k_steps)
      | (unfold Hold; (with_reducible show wpAny _ _ (setItem (Value.ref _) (Value.int _ _) _) _ _ _); (refine' at_set ?k1 ?k2 ?k3 ?k4 ?k5 ?k6 ?_; (case k1 => k_asm); (case k2 => k_asm); (case k3 => assumption); (case k4 => lia); (case k5 => lia); (case k6 => lia)); intro _ _ _; (try k_sweep); k_steps)
      | (unfold Hold; (with_reducible show wpAny _ _ (call (Value.builtin _) [Value.ref _]) _ _ _); (refine' at_len ?k1 ?k2 ?k3 ?_; (case k1 => k_asm); (case k2 => k_mem); (case k3 => lia)); k_steps)
      | (unfold Hold; (with_reducible show wpAny _ _ (binaryOp _ (Value.int _ _) (Value.int _ _)) _ _ _); refine shr_one (by lia) ?_; k_steps)
      | (unfold Hold; (with_reducible show Mine.WStep _ _ _ _); dsimp only [WStep]; k_steps)))
    all_goals (try unfold Hold)
    · rename_i F9 N9
      have hl8 : lt (cur.getD ((q - 1) / 2) .none) (its.getD j .none) = true := by assumption
      refine ⟨(q - 1) / 2, by lia, cur.set q (cur.getD ((q - 1) / 2) .none), _, _, _, _, rfl, F9, N9, by simpa using hcl, by lia, ?_, ?_, rfl, rfl, rfl, rfl⟩
      · intro x hx
        rcases List.mem_or_eq_of_mem_set hx with hx | rfl
        · exact hcS x hx
        · exact hcS _ (getD_mem (by lia))
      · rw [← hsd]
        exact (sdF_yes (by lia) hl8).symm
    · have hl8 : lt (cur.getD ((q - 1) / 2) .none) (its.getD j .none) = false := by assumption
      refine ret _ _ (by k_asm) ?_
      rw [← hsd, sdF_no hl8]
      k_asm
  · refine ret _ _ (by k_asm) ?_
    rw [← hsd, sdF_end (by lia)]
    k_asm
theorem siftupM_c {w : World} {loose : List Str} {mean : ExcName → Option Value} {mg mb : Str → Option Value}
    {dp un : Nat} {gd : Option (List Code)} {cn : Str} {cs : Scope} {a : Addr} {ccd : Value} {cl : List (Str × Addr)} {outer : List Env} {A₀ : Around} {base h₀ : Heap} {L : Addr} {m : Str → Option Value} {s : Shared} {Q E : Value → Shared → Prop}
    {D : Addr} {its : List Value} {n : Nat} {tl : List (Addr × Obj)} {j : Nat} {u : Tok} {lt : Value → Value → Bool} {S : Value → Prop}
    (B : Below A₀ base outer h₀) (F : Fr h₀ L s.heap m) (X : (hd1.heap_39 w.params).In h₀) (N : News h₀ L s.heap ((D, listOf its.toArray n) :: tl)) (T : Top hd1.view_39 loose mean mg mb h₀)
    (hk : cs.kind = .function) (hd : dp + 2 < recursionLimit) (hu : un + 16 < cLine)
    (hj : j < its.length) (hz : its.length < 64) (hlt : LtOk lt S tl) (hS : ∀ x ∈ its, S x) (hD : ∀ p ∈ tl, p.1 ≠ D)
    (ret : ∀ h' tk', Fr h₀ L h' m → News h₀ L h' ((D, listOf (suF (fun x y => lt y x) its j).toArray n) :: tl) → Q .none { s with heap := h', toks := tk' }) :
    wpAny (model PySem.Challenge.rw_nb0235_01.row.prog w) (ktrTop dp un gd cn cs L a ccd cl outer) (call (.ref 84) [.ref D, .int j u]) Q E s := by
  revert X; k_fill; intro X
  refine wpAny_call ?_
  k_dflt ktr_enter
  k_steps
  all_goals (repeat' (first
    | (unfold Hold; (with_reducible show wpAny _ _ (subscriptTail _ _ (Value.ref _) (Value.int _ _)) _ _ _); (with_unfolding_all refine' at_sub ?k1 ?k2 ?k3 ?k4 ?k5 ?_ ?k6; (case k1 => k_asm); (case k2 => k_mem); (case k3 => lia); (case k4 => lia); (case k5 => lia); (case k6 => with_unfolding_all rfl)); k_steps)
    | (unfold Hold; (with_reducible show wpAny _ _ (setItem (Value.ref _) (Value.int _ _) _) _ _ _); (refine' at_set ?k1 ?k2 ?k3 ?k4 ?k5 ?k6 ?_; (case k1 => k_asm); (case k2 => k_asm); (case k3 => assumption); (case k4 => lia); (case k5 => lia); (case k6 => lia)); intro _ _ _; (try k_sweep); k_steps)
    | (unfold Hold; (with_reducible show wpAny _ _ (call (Value.builtin _) [Value.ref _]) _ _ _); (refine' at_len ?k1 ?k2 ?k3 ?_; (case k1 => k_asm); (case k2 => k_mem); (case k3 => lia)); k_steps)
    | (unfold Hold; (with_reducible show wpAny _ _ (binaryOp _ (Value.int _ _) (Value.int _ _)) _ _ _); refine shr_one (by lia) ?_; k_steps)
    | (unfold Hold; (with_reducible show Mine.WStep _ _ _ _); dsimp only [WStep]; k_steps)))
  unfold Hold
  refine while_l (SuJ (fun x y => lt y x) S its j D u) (its.length - j) (by k_asm) (by k_asm)
    ⟨j, _, _, _, _, _, rfl, rfl, rfl, rfl, hj, hS, rfl, rfl, rfl, rfl, rfl, rfl, rfl⟩ ?_
  rintro f m₁ cur h₁ tk₁ F₁ N₁ ⟨p, _, _, tp, tc, te, rfl, rfl, rfl, hcl, hp, hcS, hsu, m1, m2, m3, m4, m5, m6⟩
  replace F₁ := puts F₁ [(Str.ofString "heap", .ref D), (Str.ofString "startpos", .int j u), (Str.ofString "pos", .int p tp), (Str.ofString "newitem", its.getD j .none), (Str.ofString "childpos", .int (2 * (p : Int) + 1) tc), (Str.ofString "endpos", .int (its.length : Int) te)] (pm m1 (pm m2 (pm m3 (pm m4 (pm m5 (pm m6 pn))))))
  dsimp only [putM] at F₁
  clear F N
  have e1 : (2 * (p : Int) + 1).toNat = 2 * p + 1 := by lia
  have e2 : (2 * (p : Int) + 1 + 1).toNat = 2 * p + 2 := by lia
  have hset : ∀ v, S v → ∀ x ∈ cur.set p v, S x := fun v hv x hx => by
    rcases List.mem_or_eq_of_mem_set hx with hx | rfl
    · exact hcS x hx
    · exact hv
  k_steps
  all_goals (repeat' (first
    | (unfold Hold; (with_reducible show wpAny _ _ (subscriptTail _ _ (Value.ref _) (Value.int _ _)) _ _ _); (with_unfolding_all refine' at_sub ?k1 ?k2 ?k3 ?k4 ?k5 ?_ ?k6; (case k1 => k_asm); (case k2 => k_mem); (case k3 => lia); (case k4 => lia); (case k5 => lia); (case k6 => with_unfolding_all rfl)); k_steps)
    | (unfold Hold; (with_reducible show wpAny _ _ (setItem (Value.ref _) (Value.int _ _) _) _ _ _); (refine' at_set ?k1 ?k2 ?k3 ?k4 ?k5 ?k6 ?_; (case k1 => k_asm); (case k2 => k_asm); (case k3 => assumption); (case k4 => lia); (case k5 => lia); (case k6 => lia)); intro _ _ _; (try k_sweep); k_steps)
    | (unfold Hold; (with_reducible show wpAny _ _ (call (Value.builtin _) [Value.ref _]) _ _ _); (refine' at_len ?k1 ?k2 ?k3 ?_; (case k1 => k_asm); (case k2 => k_mem); (case k3 => lia)); k_steps)
    | (unfold Hold; (with_reducible show wpAny _ _ (binaryOp _ (Value.int _ _) (Value.int _ _)) _ _ _); refine shr_one (by lia) ?_; k_steps)
    | (unfold Hold; (with_reducible show Mine.WStep _ _ _ _); dsimp only [WStep]; k_steps)))
  all_goals (try unfold Hold)
  · rw [e1, e2]
    refine hlt.use (by assumption) (hcS _ (getD_mem (by lia))) (hcS _ (getD_mem (by lia))) (lim (b := 3) hu (by decide)) ?_
    k_steps
    all_goals (repeat' (first
      | (unfold Hold; (with_reducible show wpAny _ _ (subscriptTail _ _ (Value.ref _) (Value.int _ _)) _ _ _); (with_unfolding_all refine' at_sub ?k1 ?k2 ?k3 ?k4 ?k5 ?_ ?k6; (case k1 => k_asm); (case k2 => k_mem); (case k3 => lia); (case k4 => lia); (case k5 => lia); (case k6 => with_unfolding_all rfl)); k_steps)
      | (unfold Hold; (with_reducible show wpAny _ _ (setItem (Value.ref _) (Value.int _ _) _) _ _ _); (refine' at_set ?k1 ?k2 ?k3 ?k4 ?k5 ?k6 ?_; (case k1 => k_asm); (case k2 => k_asm); (case k3 => assumption); (case k4 => lia); (case k5 => lia); (case k6 => lia)); intro _ _ _; (try k_sweep); k_steps)
      | (unfold Hold; (with_reducible show wpAny _ _ (call (Value.builtin _) [Value.ref _]) _ _ _); (refine' at_len ?k1 ?k2 ?k3 ?_; (case k1 => k_asm); (case k2 => k_mem); (case k3 => lia)); k_steps)
      | (unfold Hold; (with_reducible show wpAny _ _ (binaryOp _ (Value.int _ _) (Value.int _ _)) _ _ _); refine shr_one (by lia) ?_; k_steps)
      | (unfold Hold; (with_reducible show Mine.WStep _ _ _ _); dsimp only [WStep]; k_steps)))
    all_goals (try unfold Hold)
    all_goals (rename Fr _ _ _ _ => F9; rename News _ _ _ _ => N9)
    · have hl8 : lt (cur.getD (2 * p + 2) .none) (cur.getD (2 * p + 1) .none) = true := by assumption
      have hpk : pick (fun x y => lt y x) cur (2 * p + 1) = 2 * p + 1 := by unfold pick; rw [if_neg fun hc => absurd (hl8.symm.trans hc.2) (by decide)]
      have hgo := suL_go (lt := fun x y => lt y x) (cur := cur) (p := p) (by lia)
      rw [hpk] at hgo
      rw [e1] at N9
      refine wend (its.length - (2 * p + 1)) (by lia) F9 N9 ⟨2 * p + 1, _, _, _, _, _, ?_, ?_, rfl, by simpa using hcl, by lia, hset _ (hcS _ (getD_mem (by lia))), hgo.symm.trans hsu, rfl, rfl, rfl, rfl, rfl, rfl⟩
      · lia
      · lia
    · have hl8 : lt (cur.getD (2 * p + 2) .none) (cur.getD (2 * p + 1) .none) = false := by assumption
      have hpk : pick (fun x y => lt y x) cur (2 * p + 1) = 2 * p + 2 := by unfold pick; rw [if_pos ⟨by lia, hl8⟩]
      have hgo := suL_go (lt := fun x y => lt y x) (cur := cur) (p := p) (by lia)
      rw [hpk] at hgo
      rw [e2] at N9
      refine wend (its.length - (2 * p + 2)) (by lia) F9 N9 ⟨2 * p + 2, _, _, _, _, _, ?_, ?_, rfl, by simpa using hcl, by lia, hset _ (hcS _ (getD_mem (by lia))), hgo.symm.trans hsu, rfl, rfl, rfl, rfl, rfl, rfl⟩
      · lia
      · lia
  · (rename Fr _ _ _ _ => F9; rename News _ _ _ _ => N9)
    have hpk : pick (fun x y => lt y x) cur (2 * p + 1) = 2 * p + 1 := by unfold pick; rw [if_neg (by lia)]
    have hgo := suL_go (lt := fun x y => lt y x) (cur := cur) (p := p) (by lia)
    rw [hpk] at hgo
    rw [e1] at N9
    refine wend (its.length - (2 * p + 1)) (by lia) F9 N9 ⟨2 * p + 1, _, _, _, _, _, ?_, ?_, rfl, by simpa using hcl, by lia, hset _ (hcS _ (getD_mem (by lia))), hgo.symm.trans hsu, rfl, rfl, rfl, rfl, rfl, rfl⟩
    · lia
    · lia
  · have hend := suL_end (lt := fun x y => lt y x) (cur := cur) (p := p) (by lia)
    rw [hsu] at hend
    refine siftdownM_c (its := cur.set p (its.getD j .none)) (by k_asm) (by k_asm) (by k_asm) (by k_asm) (by k_asm) rfl (lim (b := 2) hd (by decide)) (lim (b := 11) hu (by decide)) (by simpa using by lia) (by simpa using by lia) hlt (hset _ (hS _ (getD_mem hj))) hD ?_
    intro h' tk' F' N'
    have e3 : (cur.set p (its.getD j .none)).getD p .none = its.getD j .none := by simp [List.getD, hcl, hp]
    rw [e3] at N'
    k_steps
    all_goals (repeat' (first
      | (unfold Hold; (with_reducible show wpAny _ _ (subscriptTail _ _ (Value.ref _) (Value.int _ _)) _ _ _); (with_unfolding_all refine' at_sub ?k1 ?k2 ?k3 ?k4 ?k5 ?_ ?k6; (case k1 => k_asm); (case k2 => k_mem); (case k3 => lia); (case k4 => lia); (case k5 => lia); (case k6 => with_unfolding_all rfl)); k_steps)
      | (unfold Hold; (with_reducible show wpAny _ _ (setItem (Value.ref _) (Value.int _ _) _) _ _ _); (refine' at_set ?k1 ?k2 ?k3 ?k4 ?k5 ?k6 ?_; (case k1 => k_asm); (case k2 => k_asm); (case k3 => assumption); (case k4 => lia); (case k5 => lia); (case k6 => lia)); intro _ _ _; (try k_sweep); k_steps)
      | (unfold Hold; (with_reducible show wpAny _ _ (call (Value.builtin _) [Value.ref _]) _ _ _); (refine' at_len ?k1 ?k2 ?k3 ?_; (case k1 => k_asm); (case k2 => k_mem); (case k3 => lia)); k_steps)
      | (unfold Hold; (with_reducible show wpAny _ _ (binaryOp _ (Value.int _ _) (Value.int _ _)) _ _ _); refine shr_one (by lia) ?_; k_steps)
      | (unfold Hold; (with_reducible show Mine.WStep _ _ _ _); dsimp only [WStep]; k_steps)))
    refine ret _ _ (by k_asm) ?_
    unfold suF
    rw [hend]
    k_asm
end Mine
end

section
-- RulesD
open PySem PySem.W PyProof.Rows PySem.Calls PySem.Spec
set_option Elab.async false
set_option maxRecDepth 100000
namespace Mine
section
variable {prog : Program} {w : World} {A : Around} {E : Value → Shared → Prop} {s : Shared} {h₀ : Heap} {L D : Addr} {m : Str → Option Value} {news tl : List (Addr × Obj)} {its : List Value} {n : Nat}
theorem at_append {v : Value} {Q : Value → Shared → Prop} (F : Fr h₀ L s.heap m) (N : News h₀ L s.heap ((D, listOf its.toArray n) :: tl)) (hD : ∀ p ∈ tl, p.1 ≠ D) (hz : its.length < 1000)
    (h : ∀ h', Fr h₀ L h' m → News h₀ L h' ((D, listOf (its ++ [v]).toArray (n + 1)) :: tl) → Q .none { s with heap := h' }) :
    wpAny (model prog w) A (call (.builtin "list.append") [.ref D, v]) Q E s :=
  append_head F N hD (fun h' F' N' => h h' F' (by simpa using N')) (by show its.toArray.size ≤ _; rw [List.size_toArray, sizeLine_eq]; lia)
theorem at_pop {y : Value} {Q : Value → Shared → Prop} (F : Fr h₀ L s.heap m) (N : News h₀ L s.heap ((D, listOf (its ++ [y]).toArray n) :: tl)) (hD : ∀ p ∈ tl, p.1 ≠ D) (hz : its.length < 1000)
    (h : ∀ h', Fr h₀ L h' m → News h₀ L h' ((D, listOf its.toArray (n + 1)) :: tl) → Q y { s with heap := h' }) :
    wpAny (model prog w) A (call (.builtin "list.pop") [.ref D]) Q E s :=
  kl_pop (its := (its ++ [y]).toArray) (p := its) F N (by show kl_last (its ++ [y]) = _; exact kpa_last y its) (Upd.head hD) (by show (its ++ [y]).length ≤ _; rw [sizeLine_eq, List.length_append, List.length_singleton]; lia) h
theorem at_truthy {Q : Bool → Shared → Prop} (N : News h₀ L s.heap news) (hm : (D, listOf its.toArray n) ∈ news) (hz : its.length < 1000)
    (h : ∀ tk, Q (decide (its ≠ [])) { s with toks := tk }) : wpAny (model prog w) A (truthy (.ref D)) Q E s := by
  refine wpAny_truthy_list (PySem.IsL.isList (n := n) (N _ hm).1) (by rw [List.size_toArray]; lia) ?_
  have e : (!its.toArray.isEmpty) = decide (its ≠ []) := by cases its <;> simp
  rw [e]
  exact h _
end
end Mine
end

section
-- HeapA
open PySem PySem.W PyProof.Rows PySem.Calls
set_option Elab.async false
set_option maxRecDepth 100000
set_option maxHeartbeats 8000000
set_option pp.deepTerms false
set_option pp.deepTerms.threshold 4
set_option pp.proofs false
namespace Mine
local macro_rules | `(tactic| walk_at "subscriptTail") => `(tactic| refine Mine.hold ?_)
local macro_rules | `(tactic| walk_at "setItem ref int") => `(tactic| refine Mine.hold ?_)
local macro_rules | `(tactic| walk_at "call builtin:len") => `(tactic| refine Mine.hold ?_)
local macro_rules | `(tactic| walk_at "call builtin:list.append") => `(tactic| refine Mine.hold ?_)
local macro_rules | `(tactic| walk_at "call builtin:list.pop") => `(tactic| refine Mine.hold ?_)
local macro_rules | `(tactic| walk_at "truthy ref") => `(tactic| refine Mine.hold ?_)
local macro_rules | `(tactic| walk_at "call ref") => `(tactic| refine Mine.hold ?_)

theorem heappush_c {w : World} {loose : List Str} {mean : ExcName → Option Value} {mg mb : Str → Option Value}
    {dp un : Nat} {gd : Option (List Code)} {cn : Str} {cs : Scope} {a : Addr} {ccd : Value} {cl : List (Str × Addr)} {outer : List Env} {A₀ : Around} {base h₀ : Heap} {L : Addr} {m : Str → Option Value} {s : Shared} {Q E : Value → Shared → Prop}
    {D : Addr} {its : List Value} {n : Nat} {tl : List (Addr × Obj)} {v : Value} {lt : Value → Value → Bool} {S : Value → Prop}
    (B : Below A₀ base outer h₀) (F : Fr h₀ L s.heap m) (X : (hd1.heap_39 w.params).In h₀) (N : News h₀ L s.heap ((D, listOf its.toArray n) :: tl)) (T : Top hd1.view_39 loose mean mg mb h₀)
    (hk : cs.kind = .function) (hd : dp + 2 < recursionLimit) (hu : un + 16 < cLine)
    (hz : its.length < 60) (hlt : LtOk lt S tl) (hS : ∀ x ∈ its, S x) (hv : S v) (hD : ∀ p ∈ tl, p.1 ≠ D)
    (ret : ∀ n' h' tk', Fr h₀ L h' m → News h₀ L h' ((D, listOf (sdF lt 0 v (its ++ [v]) its.length).toArray n') :: tl) → Q .none { s with heap := h', toks := tk' }) :
    wpAny (model PySem.Challenge.rw_nb0235_01.row.prog w) (ktrTop dp un gd cn cs L a ccd cl outer) (call (.ref 21) [.ref D, v]) Q E s := by
  revert X; k_fill; intro X
  refine wpAny_call ?_
  k_dflt ktr_enter
  k_steps
  unfold Hold
  refine at_append (by k_asm) (by k_asm) hD (by lia) ?_
  intro h1 F1 N1
  k_steps
  unfold Hold
  refine at_len (its := its ++ [v]) (n := n + 1) (by exact N1) (.head _) (by simp; lia) ?_
  k_steps
  unfold Hold
  have e2 : ((its ++ [v]).length : Int) - 1 = (its.length : Int) := by simp
  rw [e2]
  refine siftdown_c (i := 0) (j := its.length) (its := its ++ [v]) (by k_asm) (by k_asm) (by k_asm) (by k_asm) (by k_asm) rfl (lim (b := 2) hd (by decide)) (lim (b := 11) hu (by decide)) (by simp) (by simp; lia) hlt (by simpa [or_imp, forall_and] using ⟨hS, hv⟩) hD ?_
  intro h' tk' F' N'
  have e3 : (its ++ [v]).getD its.length .none = v := by simp [List.getD]
  rw [e3] at N'
  k_steps
  exact ret _ _ _ (by k_asm) (by k_asm)
theorem heappop_c {w : World} {loose : List Str} {mean : ExcName → Option Value} {mg mb : Str → Option Value}
    {dp un : Nat} {gd : Option (List Code)} {cn : Str} {cs : Scope} {a : Addr} {ccd : Value} {cl : List (Str × Addr)} {outer : List Env} {A₀ : Around} {base h₀ : Heap} {L : Addr} {m : Str → Option Value} {s : Shared} {Q E : Value → Shared → Prop}
    {D : Addr} {its : List Value} {y : Value} {n : Nat} {tl : List (Addr × Obj)} {lt : Value → Value → Bool} {S : Value → Prop}
    (B : Below A₀ base outer h₀) (F : Fr h₀ L s.heap m) (X : (hd1.heap_39 w.params).In h₀) (N : News h₀ L s.heap ((D, listOf (its ++ [y]).toArray n) :: tl)) (T : Top hd1.view_39 loose mean mg mb h₀)
    (hk : cs.kind = .function) (hd : dp + 3 < recursionLimit) (hu : un + 24 < cLine)
    (hz : its.length < 60) (hlt : LtOk lt S tl) (hS : ∀ x ∈ its, S x) (hy : S y) (hD : ∀ p ∈ tl, p.1 ≠ D)
    (ret : ∀ n' h' tk', Fr h₀ L h' m → News h₀ L h' ((D, listOf (if its = [] then [] else suF lt (its.set 0 y) 0).toArray n') :: tl) → Q ((its ++ [y]).getD 0 .none) { s with heap := h', toks := tk' }) :
    wpAny (model PySem.Challenge.rw_nb0235_01.row.prog w) (ktrTop dp un gd cn cs L a ccd cl outer) (call (.ref 28) [.ref D]) Q E s := by
  revert X; k_fill; intro X
  refine wpAny_call ?_
  k_dflt ktr_enter
  k_steps
  unfold Hold
  refine at_pop (its := its) (y := y) (n := n) (by k_asm) (by k_asm) hD (by lia) ?_
  intro h1 F1 N1
  k_steps
  rename_i F2 N2
  unfold Hold
  refine at_truthy (its := its) (n := n + 1) (by exact N2) (.head _) (by lia) ?_
  intro tk2
  k_steps
  · have h0 : 0 < its.length := by
      have : its ≠ [] := by first | assumption | simpa using ‹decide (its ≠ []) = true›
      exact List.length_pos_iff.mpr this
    k_steps
    unfold Hold
    refine at_sub (its := its) (n := n + 1) (by k_asm) (.head _) (by decide) (by lia) (by decide) ?_ (by with_unfolding_all rfl)
    k_steps
    unfold Hold
    refine at_set (its := its) (n := n + 1) (by k_asm) (by k_asm) hD (by decide) (by lia) (by decide) ?_
    intro h9 F9 N9
    k_steps
    unfold Hold
    refine siftup_c (j := 0) (its := its.set 0 y) (by k_asm) (by k_asm) (by k_asm) (by k_asm) (by k_asm) rfl (lim (b := 3) hd (by decide)) (lim (b := 19) hu (by decide)) (by simpa using h0) (by simp; lia) hlt ?_ hD ?_
    · intro x hx
      rcases List.mem_or_eq_of_mem_set hx with hx | rfl
      · exact hS x hx
      · exact hy
    · intro h' tk' F' N'
      k_steps
      have e4 : (its ++ [y]).getD 0 .none = its.getD 0 .none := by
        cases its with
        | nil => simp at h0
        | cons x r => rfl
      simp only [e4, if_neg (List.length_pos_iff.mp h0)] at ret
      exact ret _ _ _ (by k_asm) (by k_asm)
  · skip
    have h0 : its = [] := by first | assumption | simpa using ‹¬ (its ≠ [])›
    subst h0
    simp only [if_true] at ret
    exact ret _ _ _ (by k_asm) (by k_asm)
theorem heapreplace_c {w : World} {loose : List Str} {mean : ExcName → Option Value} {mg mb : Str → Option Value}
    {dp un : Nat} {gd : Option (List Code)} {cn : Str} {cs : Scope} {a : Addr} {ccd : Value} {cl : List (Str × Addr)} {outer : List Env} {A₀ : Around} {base h₀ : Heap} {L : Addr} {m : Str → Option Value} {s : Shared} {Q E : Value → Shared → Prop}
    {D : Addr} {its : List Value} {y : Value} {n : Nat} {tl : List (Addr × Obj)} {lt : Value → Value → Bool} {S : Value → Prop}
    (B : Below A₀ base outer h₀) (F : Fr h₀ L s.heap m) (X : (hd1.heap_39 w.params).In h₀) (N : News h₀ L s.heap ((D, listOf its.toArray n) :: tl)) (T : Top hd1.view_39 loose mean mg mb h₀)
    (hk : cs.kind = .function) (hd : dp + 3 < recursionLimit) (hu : un + 24 < cLine)
    (hz : its.length < 60) (h0 : 0 < its.length) (hlt : LtOk lt S tl) (hS : ∀ x ∈ its, S x) (hy : S y) (hD : ∀ p ∈ tl, p.1 ≠ D)
    (ret : ∀ h' tk', Fr h₀ L h' m → News h₀ L h' ((D, listOf (suF lt (its.set 0 y) 0).toArray n) :: tl) → Q (its.getD 0 .none) { s with heap := h', toks := tk' }) :
    wpAny (model PySem.Challenge.rw_nb0235_01.row.prog w) (ktrTop dp un gd cn cs L a ccd cl outer) (call (.ref 35) [.ref D, y]) Q E s := by
  revert X; k_fill; intro X
  refine wpAny_call ?_
  k_dflt ktr_enter
  k_steps
  unfold Hold
  refine at_sub (its := its) (n := n) (by k_asm) (.head _) (by decide) (by lia) (by decide) ?_ (by with_unfolding_all rfl)
  k_steps
  unfold Hold
  refine at_set (its := its) (n := n) (by k_asm) (by k_asm) hD (by decide) (by lia) (by decide) ?_
  intro h9 F9 N9
  k_steps
  unfold Hold
  refine siftup_c (j := 0) (its := its.set 0 y) (by k_asm) (by k_asm) (by k_asm) (by k_asm) (by k_asm) rfl (lim (b := 3) hd (by decide)) (lim (b := 19) hu (by decide)) (by simpa using h0) (by simp; lia) hlt ?_ hD ?_
  · intro x hx
    rcases List.mem_or_eq_of_mem_set hx with hx | rfl
    · exact hS x hx
    · exact hy
  · intro h' tk' F' N'
    k_steps
    exact ret _ _ (by k_asm) (by k_asm)
theorem heapreplaceM_c {w : World} {loose : List Str} {mean : ExcName → Option Value} {mg mb : Str → Option Value}
    {dp un : Nat} {gd : Option (List Code)} {cn : Str} {cs : Scope} {a : Addr} {ccd : Value} {cl : List (Str × Addr)} {outer : List Env} {A₀ : Around} {base h₀ : Heap} {L : Addr} {m : Str → Option Value} {s : Shared} {Q E : Value → Shared → Prop}
    {D : Addr} {its : List Value} {y : Value} {n : Nat} {tl : List (Addr × Obj)} {lt : Value → Value → Bool} {S : Value → Prop}
    (B : Below A₀ base outer h₀) (F : Fr h₀ L s.heap m) (X : (hd1.heap_39 w.params).In h₀) (N : News h₀ L s.heap ((D, listOf its.toArray n) :: tl)) (T : Top hd1.view_39 loose mean mg mb h₀)
    (hk : cs.kind = .function) (hd : dp + 3 < recursionLimit) (hu : un + 24 < cLine)
    (hz : its.length < 60) (h0 : 0 < its.length) (hlt : LtOk lt S tl) (hS : ∀ x ∈ its, S x) (hy : S y) (hD : ∀ p ∈ tl, p.1 ≠ D)
    (ret : ∀ h' tk', Fr h₀ L h' m → News h₀ L h' ((D, listOf (suF (fun x y => lt y x) (its.set 0 y) 0).toArray n) :: tl) → Q (its.getD 0 .none) { s with heap := h', toks := tk' }) :
    wpAny (model PySem.Challenge.rw_nb0235_01.row.prog w) (ktrTop dp un gd cn cs L a ccd cl outer) (call (.ref 49) [.ref D, y]) Q E s := by
  revert X; k_fill; intro X
  refine wpAny_call ?_
  k_dflt ktr_enter
  k_steps
  unfold Hold
  refine at_sub (its := its) (n := n) (by k_asm) (.head _) (by decide) (by lia) (by decide) ?_ (by with_unfolding_all rfl)
  k_steps
  unfold Hold
  refine at_set (its := its) (n := n) (by k_asm) (by k_asm) hD (by decide) (by lia) (by decide) ?_
  intro h9 F9 N9
  k_steps
  unfold Hold
  refine siftupM_c (j := 0) (its := its.set 0 y) (by k_asm) (by k_asm) (by k_asm) (by k_asm) (by k_asm) rfl (lim (b := 3) hd (by decide)) (lim (b := 19) hu (by decide)) (by simpa using h0) (by simp; lia) hlt ?_ hD ?_
  · intro x hx
    rcases List.mem_or_eq_of_mem_set hx with hx | rfl
    · exact hS x hx
    · exact hy
  · intro h' tk' F' N'
    k_steps
    exact ret _ _ (by k_asm) (by k_asm)
end Mine
end

section
-- RulesE
open PySem PySem.W PyProof.Rows PySem.Calls PySem.Spec
set_option Elab.async false
set_option maxRecDepth 100000
namespace Mine
theorem fr_ext {h₀ h h' : Heap} {L I : Addr} {m : Str → Option Value} (F : Fr h₀ L h m) (e : Heap.ExtBut I h h') (hL : I ≠ L) (hI : h₀.get? I = none) : Fr h₀ L h' m :=
  ⟨F.ns.at' fun o x => e L o (Ne.symm hL) x, fun b o x => e b o (fun q => by rw [q, hI] at x; cases x) (F.keep b o x), F.above⟩
theorem news_ext {h₀ h h' : Heap} {L I : Addr} {tl : List (Addr × Obj)} (N : News h₀ L h tl) (e : Heap.ExtBut I h h') (hI : ∀ p ∈ tl, p.1 ≠ I) : News h₀ L h' tl :=
  fun p hp => ⟨e p.1 p.2 (hI p hp) (N p hp).1, (N p hp).2⟩
theorem news_same {h₀ h h' : Heap} {L I : Addr} {tl : List (Addr × Obj)} {o o' : Obj} (N : News h₀ L h ((I, o) :: tl)) (e : Heap.SameBut I h h') (hI : ∀ p ∈ tl, p.1 ≠ I) (ho : h'.get? I = some o') : News h₀ L h' ((I, o') :: tl) := fun p hp => by
  rcases List.mem_cons.mp hp with rfl | hp
  · exact ⟨ho, (N _ (.head _)).2⟩
  · exact ⟨(e.2 p.1 (hI p hp)).trans (N p (.tail _ hp)).1, (N p (.tail _ hp)).2⟩
theorem news_sub {h₀ h : Heap} {L : Addr} {n1 n2 : List (Addr × Obj)} (N : News h₀ L h n1) (e : ∀ p ∈ n2, p ∈ n1) : News h₀ L h n2 := fun p hp => N p (e p hp)
theorem news_swap {h₀ h : Heap} {L : Addr} {x y : Addr × Obj} {tl : List (Addr × Obj)} (N : News h₀ L h (x :: y :: tl)) : News h₀ L h (y :: x :: tl) :=
  news_sub N fun p hp => by simp only [List.mem_cons] at hp ⊢; rcases hp with h | h | h <;> simp [h]
theorem LtOk.mono {lt : Value → Value → Bool} {S : Value → Prop} {tl tl' : List (Addr × Obj)} (h : LtOk lt S tl) (e : ∀ p ∈ tl, p ∈ tl') : LtOk lt S tl' :=
  fun x y hx hy prog w A E s Q hn hu hq => h x y hx hy prog w A E s Q (fun p hp => hn p (e p hp)) hu hq
theorem LtOk.cons {lt : Value → Value → Bool} {S : Value → Prop} {tl : List (Addr × Obj)} {x : Addr × Obj} (h : LtOk lt S tl) : LtOk lt S (x :: tl) := h.mono fun _ hp => .tail _ hp

noncomputable abbrev rIt (a n c : Int) : Obj := { cls := .type "range_iterator", dict := none, data := .fields #[rawInt a, rawInt n, rawInt c], slots := #[] }
noncomputable abbrev rObj (a b c : Int) (t u v : Tok) : Obj := { cls := .type "range", dict := none, data := .fields #[.int a t, .int b u, .int c v], slots := #[] }
noncomputable def LIt (o : Obj) (l : Addr) (i : Nat) : Prop := o.cls = .type "list_iterator" ∧ o.data = .fields #[.ref l, .int i 0]

section
variable {prog : Program} {w : World} {A : Around} {E : Value → Shared → Prop} {s : Shared} {h₀ : Heap} {L I : Addr} {m : Str → Option Value} {tl : List (Addr × Obj)} {its : List Value}
theorem next_range {a n c : Int} {Q : Option Value → Shared → Prop} (F : Fr h₀ L s.heap m) (N : News h₀ L s.heap ((I, rIt a n c) :: tl)) (hI : ∀ p ∈ tl, p.1 ≠ I) (hn : 0 < n)
    (h : ∀ h', Fr h₀ L h' m → News h₀ L h' ((I, rIt (a + c) (n - 1) c) :: tl) → Q (some (.int a s.toks)) { s with heap := h', toks := s.toks + 1 }) : wpAny (model prog w) A (pyNext (.ref I)) Q E s := by
  have z := N _ (.head _)
  exact wpAny_pyNext_range_item z.1 hn fun h' hit hs => h h' (F.change hs z.2.1 z.2.2) (news_same N hs hI hit)
theorem next_range_end {a n c : Int} {Q : Option Value → Shared → Prop} (hh : A.handled = none) (F : Fr h₀ L s.heap m) (N : News h₀ L s.heap ((I, rIt a n c) :: tl)) (hI : ∀ p ∈ tl, p.1 ≠ I) (hn : n ≤ 0)
    (h : ∀ h', Fr h₀ L h' m → News h₀ L h' tl → Q none { s with heap := h' }) : wpAny (model prog w) A (pyNext (.ref I)) Q E s := by
  have z := N _ (.head _)
  exact wpAny_pyNext_range_end hh z.1 hn fun h' he => h h' (fr_ext F he z.2.1 z.2.2) (news_ext (fun p hp => N p (.tail _ hp)) he hI)
theorem next_list {o : Obj} {l : Addr} {i : Nat} {x : Value} {Q : Option Value → Shared → Prop} (F : Fr h₀ L s.heap m) (N : News h₀ L s.heap ((I, o) :: tl)) (ho : LIt o l i) (hI : ∀ p ∈ tl, p.1 ≠ I) (hl : s.heap.IsList l its.toArray) (hx : its[i]? = some x)
    (h : ∀ h' o', Fr h₀ L h' m → News h₀ L h' ((I, o') :: tl) → LIt o' l (i + 1) → Q (some x) { s with heap := h' }) : wpAny (model prog w) A (pyNext (.ref I)) Q E s := by
  have z := N _ (.head _)
  refine wpAny_pyNext_list_item ⟨o, z.1, ho⟩ hl (by simpa using hx) fun h' hit hs => ?_
  obtain ⟨o', e, hc⟩ := hit
  exact h h' o' (F.change hs z.2.1 z.2.2) (news_same N hs hI e) hc
theorem next_list_end {o : Obj} {l : Addr} {i : Nat} {Q : Option Value → Shared → Prop} (hh : A.handled = none) (F : Fr h₀ L s.heap m) (N : News h₀ L s.heap ((I, o) :: tl)) (ho : LIt o l i) (hI : ∀ p ∈ tl, p.1 ≠ I) (hl : s.heap.IsList l its.toArray) (hx : its[i]? = none)
    (h : ∀ h', Fr h₀ L h' m → News h₀ L h' tl → Q none { s with heap := h' }) : wpAny (model prog w) A (pyNext (.ref I)) Q E s := by
  have z := N _ (.head _)
  exact wpAny_pyNext_list_end hh ⟨o, z.1, ho⟩ hl (by simpa using hx) fun h' he => h h' (fr_ext F he z.2.1 z.2.2) (news_ext (fun p hp => N p (.tail _ hp)) he hI)

/-- the loop's turns, told by a state of one's own -/
noncomputable def ForAt (prog : Program) (w : World) (A : Around) (env : Env) (target : Expr) (body : List Stmt) (Q : Flow → Shared → Prop) (E : Value → Shared → Prop) (it : Value) (s₂ : Shared) : Prop :=
  ∃ (P : Nat → Shared → Prop) (n₀ : Nat), P n₀ s₂ ∧ (∀ v, letOwnedTupleGo target it v = pure ()) ∧ ∀ n s', P n s' → wpAny (model prog w) A (pyNext it) (fun r s₃ => match r with
    | none => Q .next s₃
    | some v => wpAny (model prog w) A (assign target env v) (fun _ s₄ => wpAny (model prog w) A (execs body env) (WStep (fun s₅ => ∃ n', n' < n ∧ P n' s₅) Q) E s₄) E s₃) E s'
theorem for_c {env : Env} {target iter : Expr} {body : List Stmt} {pos : Pos} {Q : Flow → Shared → Prop}
    (h : wpAny (model prog w) A (eval iter env) (fun xv s₁ => wpAny (model prog w) A (pyIter xv) (fun it s₂ => ForAt prog w A env target body Q E it s₂) E s₁) E s)
    (hs : ∀ x, foldedSetIterable iter env x = pure x := by intro _; rfl)
    (hE : PassesOwn (model prog w) A env E := by passes_own) :
    wpAny (model prog w) A (exec (.For target iter body [] pos) env) Q E s := by
  refine wpAny_For (wpAny_mono h (fun xv s₁ h₁ => wpAny_mono h₁ (fun it s₂ h₂ => ?_) fun _ _ e => e) fun _ _ e => e) hs
  obtain ⟨P, n₀, h0, hl, turn⟩ := h₂
  refine codeAny_forLoop (R := fun r s' => match r with | .ok f => Q f s' | .error e => cameBackBy (model prog w) A env E e s') P ?_ n₀ h0 hl
  intro n s' hP
  refine wpAny_mono (turn n s' hP) (fun r s₃ h₃ => ?_) hE
  cases r with
  | none => exact wpAny_execs_nil h₃
  | some v =>
    refine wpAny_mono h₃ (fun _ s₄ h₄ => wpAny_mono h₄ (fun f s₅ h₅ => ?_) hE) hE
    cases f with
    | next => exact h₅
    | cont => exact h₅
    | brk => exact h₅
    | ret v => exact h₅

theorem F_sub_ri_reversed : isSubtype (.type "range_iterator") (.type "reversed") = pure false := by rw [isSubtype_type]; kernel_rfl
theorem call_range_reversed {r : Addr} {k : Nat} {t u v : Tok} {Q : Value → Shared → Prop} (hr : IsRange s.heap r 0 k 1 t u v) (hk : k < 1000)
    (h : Q (.ref s.heap.objs.size) { s with heap := s.heap.push (rIt ((k : Int) - 1) k (-1)) }) : wpAny (model prog w) A (call (.builtin "range.__reversed__") [.ref r]) Q E s := by
  refine wpAny_call_entry PySem.F.slot_range_reversed ⟨_, hr, rfl⟩ PySem.F.entry_range_reversed ?_ (PySem.F.args_range_reversed_1 _)
  unfold Builtin.«range.__reversed__»
  refine wpAny_bind (wpAny_of_eq (a := Value.ref r) rfl ?_)
  have hrs : Builtin.Range.rangeSize 0 k 1 = k := by
    unfold Builtin.Range.rangeSize
    rw [if_pos (by decide)]
    by_cases h0 : (0 : Int) < k
    · rw [if_pos h0]; lia
    · rw [if_neg h0]; lia
  refine wpAny_bind (wpAny_mono (Q := fun r s' => r = ((0 : Int), (k : Int), (1 : Int)) ∧ s' = s) (E := E) ?_ ?_ fun _ _ e => e)
  · obtain ⟨hp, g, d, tk, os⟩ := s
    wp_walk using PySem.AutoSeq1.wpAny_loadPart' hr
    exact ⟨rfl, rfl⟩
  · rintro _ _ ⟨rfl, rfl⟩
    dsimp only
    rw [hrs]
    have hsm : (Builtin.Range.rangeFitsLong 0 && Builtin.Range.rangeFitsLong k && Builtin.Range.rangeFitsLong 1 && Builtin.Range.rangeFitsLong (-1) && Builtin.Range.rangeFitsLong (0 - 1) && Builtin.Range.rangeFitsLong k) = true := by
      have : Builtin.Range.rangeFitsLong (k : Int) = true := by unfold Builtin.Range.rangeFitsLong; simp; lia
      rw [this]; decide
    rw [hsm]
    simp only [Bool.not_true, Bool.false_eq_true, if_false, if_true]
    refine wpAny_bind (wpAny_newObj_type (wpAny_pure ⟨_, rfl, ?_⟩))
    have e : (0 : Int) + ((k : Int) - 1) * 1 = (k : Int) - 1 := by lia
    rw [e]
    exact h
theorem code_reversed_range {r : Addr} {k : Nat} {t u v : Tok} {Q₁ : Value → Shared → Prop} (hr : IsRange s.heap r 0 k 1 t u v) (hk : k < 1000)
    (h : Q₁ (.ref s.heap.objs.size) { s with heap := s.heap.push (rIt ((k : Int) - 1) k (-1)) }) :
    codeAny (model prog w) A (.call (.builtin "reversed.__new__") ⟨[.type "reversed", .ref r], []⟩) (wants Q₁ E) s := by
  refine codeAny_of_tree ?_
  show wpAny _ A.in1 (do checkBuiltinCall "reversed.__new__" ⟨[.type "reversed", .ref r], []⟩; again (.builtin "reversed.__new__" ⟨[.type "reversed", .ref r], []⟩)) _ _ s
  refine wpAny_bind (wpAny_of_eq (PySem.F.newCall_reversed_1 _) (wpAny_pure ⟨plainId_quiet PySem.F.plain_reversed_new _, codeAny_builtin PySem.F.entry_reversed_new ?_⟩))
  rw [Around.under_plainId PySem.F.plain_reversed_new _]
  unfold Builtin.«reversed.__new__»
  refine wpAny_bind (wpAny_of_eq (newClass_reversed _) ?_)
  try dsimp only
  refine wpAny_bind (wpAny_of_eq (a := ()) (by first | rfl | kernel_rfl) ?_)
  refine wpAny_bind (wpAny_of_eq (a := ()) (by first | rfl | kernel_rfl) ?_)
  try dsimp only
  refine wpAny_bind (wpAny_specialOf (T := "range") ⟨_, hr, rfl⟩ PySem.F.slot_range_reversed.lookup ?_)
  try dsimp only
  refine wpAny_bind (wpAny_of_eq (PySem.F.slot_range_reversed.bind _) ?_)
  try dsimp only
  first
  | rw [if_neg (show ¬ ((Value.builtin "range.__reversed__" == Value.none) = true) from Bool.false_ne_true)]
  | (show wpAny _ _ (if (Value.builtin "range.__reversed__" == Value.none) = true then _ else _) _ _ _; rw [if_neg (show ¬ ((Value.builtin "range.__reversed__" == Value.none) = true) from Bool.false_ne_true)])
  refine wpAny_bind (wpAny_rule ?_)
  refine wpAny_bind (m := runValue (.call (.builtin "range.__reversed__") ⟨[.ref r], []⟩)) (show wpAny _ _ (call (.builtin "range.__reversed__") [.ref r]) _ _ _ from call_range_reversed hr hk ?_)
  first
  | exact wpAny_pure h
  | exact wpAny_bind (wpAny_pure (wpAny_pure h))
theorem reversed_range {r : Addr} {k : Nat} {t u v : Tok} {Q : Value → Shared → Prop} (hr : IsRange s.heap r 0 k 1 t u v) (hk : k < 1000)
    (h : Q (.ref s.heap.objs.size) { s with heap := s.heap.push (rIt ((k : Int) - 1) k (-1)) }) : wpAny (model prog w) A (call (.type "reversed") [.ref r]) Q E s := by
  refine callType_other (U := "range_iterator") (Q₁ := fun obj s₁ => obj = .ref s.heap.objs.size ∧ s₁ = { s with heap := s.heap.push (rIt ((k : Int) - 1) k (-1)) }) (by decide +kernel) PySem.F.create_reversed ⟨_, _, PySem.F.mro_reversed⟩ PySem.F.made_reversed F_sub_ri_reversed (PySem.F.typeCall_reversed_1 _) (code_reversed_range hr hk ⟨rfl, rfl⟩) ?_
  rintro obj s₁ ⟨rfl, rfl⟩
  exact ⟨⟨_, Heap.get?_push_size _ rfl, rfl⟩, h⟩
end
end Mine
end

section
-- RulesF
open PySem PySem.W PyProof.Rows PySem.Calls PySem.Spec
set_option Elab.async false
set_option maxRecDepth 100000
namespace Mine
inductive DEnd (g : Heap) (L D : Addr) (n : Nat) (tl : List (Addr × Obj)) (s : Shared) (J : Nat → (Str → Option Value) → List Value → Prop) (k : Nat) (I : Addr) (o : Obj) (s₃ : Shared) : Prop
  | mk (h' : Heap) (tk' : Nat) (m' : Str → Option Value) (cur' : List Value) (a1 : s₃ = { s with heap := h', toks := tk' }) (a2 : Fr g L h' m') (a3 : News g L h' ((I, o) :: (D, listOf cur'.toArray n) :: tl)) (a4 : J k m' cur') : DEnd g L D n tl s J k I o s₃
inductive FdJ (g : Heap) (L D I : Addr) (n : Nat) (tl : List (Addr × Obj)) (s : Shared) (J : Nat → (Str → Option Value) → List Value → Prop) (k : Nat) (s' : Shared) : Prop
  | mk (h₁ : Heap) (tk₁ : Nat) (m₁ : Str → Option Value) (cur : List Value) (a1 : s' = { s with heap := h₁, toks := tk₁ }) (a2 : Fr g L h₁ m₁) (a3 : News g L h₁ ((I, rIt ((k : Int) - 1) k (-1)) :: (D, listOf cur.toArray n) :: tl)) (a4 : J k m₁ cur) : FdJ g L D I n tl s J k s'
section
variable {prog : Program} {w : World} {A : Around} {E : Value → Shared → Prop} {s : Shared}
theorem for_down {env : Env} {x : Str} {px : Pos} {body : List Stmt} {Q : Flow → Shared → Prop} {g : Heap} {L D : Addr} {n : Nat} {tl : List (Addr × Obj)} {its : List Value} {m : Str → Option Value} {H : Heap} {tk : Nat}
    (hh : A.handled = none) (F : Fr g L H m) (N : News g L H ((D, listOf its.toArray n) :: tl)) (J : Nat → (Str → Option Value) → List Value → Prop) (k₀ : Nat) (h0 : J k₀ m its)
    (turn : ∀ (k : Nat) m₁ cur (I : Addr) o h₁ tk₁, (∀ p ∈ (D, listOf cur.toArray n) :: tl, p.1 ≠ I) → Fr g L h₁ m₁ → News g L h₁ ((I, o) :: (D, listOf cur.toArray n) :: tl) → J (k + 1) m₁ cur →
      wpAny (model prog w) A (assign (.Name x px) env (.int k tk₁)) (fun _ s₄ => wpAny (model prog w) A (execs body env) (WStep (DEnd g L D n tl s J k I o) Q) E s₄) E { s with heap := h₁, toks := tk₁ + 1 })
    (fin : ∀ m₁ cur h₁ tk₁, Fr g L h₁ m₁ → News g L h₁ ((D, listOf cur.toArray n) :: tl) → J 0 m₁ cur → Q .next { s with heap := h₁, toks := tk₁ }) :
    wpAny (model prog w) A (pyIter (.ref H.objs.size)) (fun it s₂ => ForAt prog w A env (.Name x px) body Q E it s₂) E { s with heap := H.push (rIt ((k₀ : Int) - 1) k₀ (-1)), toks := tk } := by
  have hF1 := F.push (rIt ((k₀ : Int) - 1) k₀ (-1))
  have hN1 := News.push F N (rIt ((k₀ : Int) - 1) k₀ (-1))
  have hI : ∀ p ∈ (D, listOf its.toArray n) :: tl, p.1 ≠ H.objs.size := fun p hp => Nat.ne_of_lt (Heap.lt_size (N p hp).1)
  refine wpAny_pyIter_rangeiter (hN1 _ (.head _)).1 ?_
  refine ⟨FdJ g L D H.objs.size n tl s J, k₀, ⟨_, _, _, _, rfl, hF1, hN1, h0⟩, fun _ => rfl, ?_⟩
  rintro k _ ⟨h₁, tk₁, m₁, cur, rfl, F₁, N₁, J₁⟩
  have hI' : ∀ p ∈ (D, listOf cur.toArray n) :: tl, p.1 ≠ H.objs.size := fun p hp => by
    rcases List.mem_cons.mp hp with rfl | hp
    · exact hI (D, listOf its.toArray n) (.head _)
    · exact hI p (.tail _ hp)
  cases k with
  | zero => exact next_range_end hh F₁ N₁ hI' (by lia) fun h' F' N' => fin _ _ _ _ F' N' J₁
  | succ k =>
    have e1 : (((k + 1 : Nat) : Int) - 1) = k := by lia
    refine next_range F₁ N₁ hI' (by lia) fun h' F' N' => ?_
    rw [e1] at N' ⊢
    have e2 : (k : Int) + -1 = k - 1 := by lia
    rw [e2] at N'
    refine wpAny_mono (turn k m₁ cur _ _ h' tk₁ hI' F' N' J₁) (fun _ s₄ h₄ => wpAny_mono h₄ (fun f s₅ h₅ => ?_) fun _ _ e => e) fun _ _ e => e
    have conv : DEnd g L D n tl s J k H.objs.size (rIt ((k : Int) - 1) k (-1)) s₅ → ∃ n', n' < k + 1 ∧ FdJ g L D H.objs.size n tl s J n' s₅ := by
      rintro ⟨h', tk', m', cur', rfl, F', N', hJ⟩
      exact ⟨k, Nat.lt_succ_self _, h', tk', m', cur', rfl, F', N', hJ⟩
    cases f with
    | next => exact conv h₅
    | cont => exact conv h₅
    | brk => exact h₅
    | ret v => exact h₅
end
end Mine
end

section
-- HeapB
open PySem PySem.W PyProof.Rows PySem.Calls
set_option Elab.async false
set_option maxRecDepth 100000
set_option maxHeartbeats 8000000
set_option pp.deepTerms false
set_option pp.deepTerms.threshold 4
set_option pp.proofs false
namespace Mine
noncomputable def hfF (lt : Value → Value → Bool) : Nat → List Value → List Value
  | 0, cur => cur
  | k + 1, cur => hfF lt k (suF lt cur k)
theorem sdF_length {lt : Value → Value → Bool} {i : Nat} {x : Value} : ∀ (p : Nat) (cur : List Value), (sdF lt i x cur p).length = cur.length := by
  intro p
  induction p using Nat.strongRecOn with
  | ind p ih =>
    intro cur
    rw [sdF]
    split
    · split
      · rw [ih _ (by lia), List.length_set]
      · rw [List.length_set]
    · rw [List.length_set]
theorem suL_length {lt : Value → Value → Bool} : ∀ (f : Nat) (cur : List Value) (p : Nat), cur.length - p = f → (suL lt cur p).1.length = cur.length := by
  intro f
  induction f using Nat.strongRecOn with
  | ind f ih =>
    intro cur p hf
    by_cases h : 2 * p + 1 < cur.length
    · rw [suL_go h]
      have := pick_ge (lt := lt) (cur := cur) (c := 2 * p + 1)
      rw [ih (cur.length - pick lt cur (2 * p + 1)) (by lia) _ _ (by rw [List.length_set]), List.length_set]
    · rw [suL_end h]
theorem suF_length {lt : Value → Value → Bool} {cur : List Value} {p : Nat} : (suF lt cur p).length = cur.length := by
  unfold suF
  rw [sdF_length, List.length_set, suL_length _ _ _ rfl]
theorem mem_set {S : Value → Prop} {cur : List Value} {p : Nat} {v : Value} (h : ∀ x ∈ cur, S x) (hv : S v) : ∀ x ∈ cur.set p v, S x := fun x hx => by
  rcases List.mem_or_eq_of_mem_set hx with hx | rfl
  · exact h x hx
  · exact hv
theorem sdF_mem {lt : Value → Value → Bool} {S : Value → Prop} {i : Nat} {x : Value} (hx : S x) : ∀ (p : Nat) (cur : List Value), p < cur.length → (∀ y ∈ cur, S y) → ∀ y ∈ sdF lt i x cur p, S y := by
  intro p
  induction p using Nat.strongRecOn with
  | ind p ih =>
    intro cur hp hc
    rw [sdF]
    split
    · split
      · exact ih _ (by lia) _ (by rw [List.length_set]; lia) (mem_set hc (hc _ (getD_mem (by lia))))
      · exact mem_set hc hx
    · exact mem_set hc hx
theorem suL_mem {lt : Value → Value → Bool} {S : Value → Prop} : ∀ (f : Nat) (cur : List Value) (p : Nat), cur.length - p = f → p < cur.length → (∀ y ∈ cur, S y) → (∀ y ∈ (suL lt cur p).1, S y) ∧ (suL lt cur p).2 < cur.length := by
  intro f
  induction f using Nat.strongRecOn with
  | ind f ih =>
    intro cur p hf hp hc
    by_cases h : 2 * p + 1 < cur.length
    · rw [suL_go h]
      have h1 := pick_ge (lt := lt) (cur := cur) (c := 2 * p + 1)
      have h2 := pick_lt (lt := lt) (cur := cur) (c := 2 * p + 1) h
      have := ih (cur.length - pick lt cur (2 * p + 1)) (by lia) (cur.set p (cur.getD (pick lt cur (2 * p + 1)) .none)) (pick lt cur (2 * p + 1)) (by rw [List.length_set]) (by rw [List.length_set]; exact h2) (mem_set hc (hc _ (getD_mem h2)))
      rw [List.length_set] at this
      exact this
    · rw [suL_end h]
      exact ⟨hc, hp⟩
theorem suF_mem {lt : Value → Value → Bool} {S : Value → Prop} {cur : List Value} {p : Nat} (hp : p < cur.length) (hc : ∀ y ∈ cur, S y) : ∀ y ∈ suF lt cur p, S y := by
  unfold suF
  obtain ⟨a, b⟩ := suL_mem (lt := lt) _ cur p rfl hp hc
  exact sdF_mem (hc _ (getD_mem hp)) _ _ (by rw [List.length_set, suL_length _ _ _ rfl]; exact b) (mem_set a (hc _ (getD_mem hp)))

local macro_rules | `(tactic| walk_at "call builtin:len") => `(tactic| refine Mine.hold ?_)
local macro_rules | `(tactic| walk_at "call ref") => `(tactic| refine Mine.hold ?_)
local macro_rules | `(tactic| walk_at "exec For Name Call cons nil") => `(tactic| refine Mine.hold ?_)
local macro_rules | `(tactic| walk_at "call type:reversed") => `(tactic| refine Mine.hold ?_)
local macro_rules | `(tactic| walk_at "WStep") => `(tactic| (dsimp only [WStep]))

structure HfJ (lt : Value → Value → Bool) (S : Value → Prop) (its : List Value) (D : Addr) (k : Nat) (m₁ : Str → Option Value) (cur : List Value) : Prop where
  a1 : cur.length = its.length
  a2 : ∀ x ∈ cur, S x
  a3 : hfF lt k cur = hfF lt (its.length / 2) its
  a4 : k ≤ its.length / 2
  a5 : m₁ (Str.ofString "x") = some (.ref D)
theorem heapify_c {w : World} {loose : List Str} {mean : ExcName → Option Value} {mg mb : Str → Option Value}
    {dp un : Nat} {gd : Option (List Code)} {cn : Str} {cs : Scope} {a : Addr} {ccd : Value} {cl : List (Str × Addr)} {outer : List Env} {A₀ : Around} {base h₀ : Heap} {L : Addr} {m : Str → Option Value} {s : Shared} {Q E : Value → Shared → Prop}
    {D : Addr} {its : List Value} {n : Nat} {tl : List (Addr × Obj)} {lt : Value → Value → Bool} {S : Value → Prop}
    (B : Below A₀ base outer h₀) (F : Fr h₀ L s.heap m) (X : (hd1.heap_39 w.params).In h₀) (N : News h₀ L s.heap ((D, listOf its.toArray n) :: tl)) (T : Top hd1.view_39 loose mean mg mb h₀)
    (hk : cs.kind = .function) (hd : dp + 3 < recursionLimit) (hu : un + 24 < cLine)
    (hz : its.length < 60) (hlt : LtOk lt S tl) (hS : ∀ x ∈ its, S x) (hD : ∀ p ∈ tl, p.1 ≠ D)
    (ret : ∀ h' tk', Fr h₀ L h' m → News h₀ L h' ((D, listOf (hfF lt (its.length / 2) its).toArray n) :: tl) → Q .none { s with heap := h', toks := tk' }) :
    wpAny (model PySem.Challenge.rw_nb0235_01.row.prog w) (ktrTop dp un gd cn cs L a ccd cl outer) (call (.ref 42) [.ref D]) Q E s := by
  revert X; k_fill; intro X
  refine wpAny_call ?_
  k_dflt ktr_enter
  k_steps
  unfold Hold
  refine at_len (its := its) (n := n) (by k_asm) (.head _) (by lia) ?_
  k_steps
  unfold Hold
  k_dflt (refine for_c ?_)
  k_steps
  rename_i hR hF hN _
  unfold Hold
  have e2 : (its.length : Int).fdiv 2 = ((its.length / 2 : Nat) : Int) := by rw [Int.fdiv_eq_ediv_of_nonneg _ (by decide)]; lia
  rw [e2] at hR
  refine reversed_range hR (by lia) ?_
  dsimp only
  refine for_down (s := s) (by exact rfl) hF hN (HfJ lt S its D) (its.length / 2) (by exact ⟨rfl, hS, rfl, Nat.le_refl _, rfl⟩) ?_ ?_
  · rintro k m₁ cur I o h₁ tk₁ hI F₁ N₁ ⟨hcl, hcS, hhf, hkl, m1⟩
    replace F₁ := puts F₁ [(Str.ofString "x", .ref D)] (pm m1 pn)
    dsimp only [putM] at F₁
    clear hF hN F N
    k_steps
    unfold Hold
    refine siftup_c (its := cur) (tl := (I, o) :: tl) (by k_asm) (by k_asm) (by k_asm) (news_swap (by k_asm)) (by k_asm) rfl (lim (b := 3) hd (by decide)) (lim (b := 19) hu (by decide)) (by lia) (by lia) hlt.cons hcS
      (fun p hp => by
        rcases List.mem_cons.mp hp with rfl | hp
        · exact Ne.symm (hI _ (.head _))
        · exact hD p hp) ?_
    intro h' tk' F' N'
    replace N' := news_swap N'
    k_steps
    exact ⟨_, _, _, _, rfl, by k_asm, by k_asm, by rw [suF_length]; exact hcl, suF_mem (by lia) hcS, hhf, by lia, rfl⟩
  · rintro m₁ cur h₁ tk₁ F₁ N₁ ⟨hcl, hcS, hhf, -, m1⟩
    clear hF hN F N
    k_steps
    refine ret _ _ (by k_asm) ?_
    rw [← hhf]
    k_asm
theorem heapifyM_c {w : World} {loose : List Str} {mean : ExcName → Option Value} {mg mb : Str → Option Value}
    {dp un : Nat} {gd : Option (List Code)} {cn : Str} {cs : Scope} {a : Addr} {ccd : Value} {cl : List (Str × Addr)} {outer : List Env} {A₀ : Around} {base h₀ : Heap} {L : Addr} {m : Str → Option Value} {s : Shared} {Q E : Value → Shared → Prop}
    {D : Addr} {its : List Value} {n : Nat} {tl : List (Addr × Obj)} {lt : Value → Value → Bool} {S : Value → Prop}
    (B : Below A₀ base outer h₀) (F : Fr h₀ L s.heap m) (X : (hd1.heap_39 w.params).In h₀) (N : News h₀ L s.heap ((D, listOf its.toArray n) :: tl)) (T : Top hd1.view_39 loose mean mg mb h₀)
    (hk : cs.kind = .function) (hd : dp + 3 < recursionLimit) (hu : un + 24 < cLine)
    (hz : its.length < 60) (hlt : LtOk lt S tl) (hS : ∀ x ∈ its, S x) (hD : ∀ p ∈ tl, p.1 ≠ D)
    (ret : ∀ h' tk', Fr h₀ L h' m → News h₀ L h' ((D, listOf (hfF (fun x y => lt y x) (its.length / 2) its).toArray n) :: tl) → Q .none { s with heap := h', toks := tk' }) :
    wpAny (model PySem.Challenge.rw_nb0235_01.row.prog w) (ktrTop dp un gd cn cs L a ccd cl outer) (call (.ref 56) [.ref D]) Q E s := by
  revert X; k_fill; intro X
  refine wpAny_call ?_
  k_dflt ktr_enter
  k_steps
  unfold Hold
  refine at_len (its := its) (n := n) (by k_asm) (.head _) (by lia) ?_
  k_steps
  unfold Hold
  k_dflt (refine for_c ?_)
  k_steps
  rename_i hR hF hN _
  unfold Hold
  have e2 : (its.length : Int).fdiv 2 = ((its.length / 2 : Nat) : Int) := by rw [Int.fdiv_eq_ediv_of_nonneg _ (by decide)]; lia
  rw [e2] at hR
  refine reversed_range hR (by lia) ?_
  dsimp only
  refine for_down (s := s) (by exact rfl) hF hN (HfJ (fun x y => lt y x) S its D) (its.length / 2) (by exact ⟨rfl, hS, rfl, Nat.le_refl _, rfl⟩) ?_ ?_
  · rintro k m₁ cur I o h₁ tk₁ hI F₁ N₁ ⟨hcl, hcS, hhf, hkl, m1⟩
    replace F₁ := puts F₁ [(Str.ofString "x", .ref D)] (pm m1 pn)
    dsimp only [putM] at F₁
    clear hF hN F N
    k_steps
    unfold Hold
    refine siftupM_c (its := cur) (tl := (I, o) :: tl) (by k_asm) (by k_asm) (by k_asm) (news_swap (by k_asm)) (by k_asm) rfl (lim (b := 3) hd (by decide)) (lim (b := 19) hu (by decide)) (by lia) (by lia) hlt.cons hcS
      (fun p hp => by
        rcases List.mem_cons.mp hp with rfl | hp
        · exact Ne.symm (hI _ (.head _))
        · exact hD p hp) ?_
    intro h' tk' F' N'
    replace N' := news_swap N'
    k_steps
    exact ⟨_, _, _, _, rfl, by k_asm, by k_asm, by rw [suF_length]; exact hcl, suF_mem (by lia) hcS, hhf, by lia, rfl⟩
  · rintro m₁ cur h₁ tk₁ F₁ N₁ ⟨hcl, hcS, hhf, -, m1⟩
    clear hF hN F N
    k_steps
    refine ret _ _ (by k_asm) ?_
    rw [← hhf]
    k_asm
end Mine
end

section
-- StripA
open PySem PySem.W PyProof.Rows PySem.Calls
set_option Elab.async false
set_option maxRecDepth 100000
set_option maxHeartbeats 1000000
set_option pp.deepTerms false
set_option pp.deepTerms.threshold 6
set_option pp.proofs false
namespace Mine
theorem cut {M : Model} {A : Around} {E : Value → Shared → Prop} {s : Shared} {env : Env} {st : Stmt} {rest : List Stmt} {Q : Flow → Shared → Prop} (R : Shared → Prop)
    (h1 : wpAny M A (exec st env) (fun f s' => f = .next ∧ Hold (R s')) E s) (h2 : ∀ s', R s' → wpAny M A (execs rest env) Q E s') : wpAny M A (execs (st :: rest) env) Q E s :=
  wpAny_execs_cons (wpAny_mono h1 (fun f s' h => by obtain ⟨rfl, hr⟩ := h; exact h2 s' hr) fun _ _ e => e)
noncomputable abbrev qq : Str := Str.ofString "\""
noncomputable def inn (x : Str) : Str :=
  if Txt.startswith x qq = true then (if Txt.endswith (Txt.slice x (some 1) none) qq = true then Txt.slice (Txt.slice x (some 1) none) none (some (-1)) else Txt.slice x (some 1) none)
  else (if Txt.endswith x qq = true then Txt.slice x none (some (-1)) else x)
theorem strip_c {w : World} {loose : List Str} {mean : ExcName → Option Value} {mg mb : Str → Option Value}
    {dp un : Nat} {gd : Option (List Code)} {cn : Str} {cs : Scope} {a : Addr} {ccd : Value} {cl : List (Str × Addr)} {outer : List Env} {A₀ : Around} {base h₀ : Heap} {L : Addr} {m : Str → Option Value} {s : Shared} {Q E : Value → Shared → Prop}
    {news : List (Addr × Obj)} {x : Str} {t : Tok}
    (B : Below A₀ base outer h₀) (F : Fr h₀ L s.heap m) (X : (hd1.heap_39 w.params).In h₀) (N : News h₀ L s.heap news) (T : Top hd1.view_39 loose mean mg mb h₀)
    (hk : cs.kind = .function) (hd : dp + 1 < recursionLimit) (hu : un + 8 < cLine) (hx : x.length < 1000)
    (ret : ∀ t' h' tk', Fr h₀ L h' m → News h₀ L h' news → Q (.str (inn x) t') { s with heap := h', toks := tk' }) :
    wpAny (model PySem.Challenge.rw_nb0235_01.row.prog w) (ktrTop dp un gd cn cs L a ccd cl outer) (call (.ref 103) [.str x t]) Q E s := by
  revert X; k_fill; intro X
  refine wpAny_call ?_
  k_dflt ktr_enter
  k_steps
  all_goals (unfold inn at ret)
  · have h1 : Txt.startswith x qq = true := by assumption
    have h2 : Txt.endswith (Txt.slice x (some 1) none) qq = true := by assumption
    simp only [h1, h2, if_true] at ret
    exact ret _ _ _ (by k_asm) (by k_asm)
  · have h1 : Txt.startswith x qq = true := by assumption
    have h2 : Txt.endswith (Txt.slice x (some 1) none) qq = false := by assumption
    simp only [h1, h2, if_true, Bool.false_eq_true, if_false] at ret
    exact ret _ _ _ (by k_asm) (by k_asm)
  · have h1 : Txt.startswith x qq = false := by assumption
    have h2 : Txt.endswith x qq = true := by assumption
    simp only [h1, h2, if_true, Bool.false_eq_true, if_false] at ret
    exact ret _ _ _ (by k_asm) (by k_asm)
  · have h1 : Txt.startswith x qq = false := by assumption
    have h2 : Txt.endswith x qq = false := by assumption
    simp only [h1, h2, Bool.false_eq_true, if_false] at ret
    exact ret _ _ _ (by k_asm) (by k_asm)

noncomputable def fst1 (x : Str) : Int := if Txt.slice x none (some 1) = qq then 1 else 0
noncomputable def inn2 (x : Str) : Str := Txt.slice x (some (fst1 x)) (some ((x.length : Int) - (if Txt.slice (Txt.slice x (some (fst1 x)) none) (some (-1)) none = qq then 1 else 0)))
inductive InA (s : Shared) (g' : Heap) (L' : Addr) (news : List (Addr × Obj)) (x : Str) (t : Tok) (s' : Shared) : Prop
  | mk (h' : Heap) (tk : Nat) (m' : Str → Option Value) (t1 : Tok) (a1 : s' = { s with heap := h', toks := tk }) (a2 : Fr g' L' h' m') (a3 : News g' L' h' news) (m1 : m' (Str.ofString "text") = some (.str x t)) (m2 : m' (Str.ofString "first") = some (.int (fst1 x) t1)) : InA s g' L' news x t s'
inductive InB (s : Shared) (g' : Heap) (L' : Addr) (news : List (Addr × Obj)) (x : Str) (t : Tok) (s' : Shared) : Prop
  | mk (h' : Heap) (tk : Nat) (m' : Str → Option Value) (t1 t2 : Tok) (a1 : s' = { s with heap := h', toks := tk }) (a2 : Fr g' L' h' m') (a3 : News g' L' h' news) (m1 : m' (Str.ofString "text") = some (.str x t)) (m2 : m' (Str.ofString "first") = some (.int (fst1 x) t1))
    (m3 : m' (Str.ofString "behind") = some (.int ((x.length : Int) - (if Txt.slice (Txt.slice x (some (fst1 x)) none) (some (-1)) none = qq then 1 else 0)) t2)) : InB s g' L' news x t s'
theorem inner_c {w : World} {loose : List Str} {mean : ExcName → Option Value} {mg mb : Str → Option Value}
    {dp un : Nat} {gd : Option (List Code)} {cn : Str} {cs : Scope} {a : Addr} {ccd : Value} {cl : List (Str × Addr)} {outer : List Env} {A₀ : Around} {base h₀ : Heap} {L : Addr} {m : Str → Option Value} {s : Shared} {Q E : Value → Shared → Prop}
    {news : List (Addr × Obj)} {x : Str} {t : Tok}
    (B : Below A₀ base outer h₀) (F : Fr h₀ L s.heap m) (X : (hd1.heap_39 w.params).In h₀) (N : News h₀ L s.heap news) (T : Top hd1.view_39 loose mean mg mb h₀)
    (hk : cs.kind = .function) (hd : dp + 1 < recursionLimit) (hu : un + 8 < cLine) (hx : x.length < 1000)
    (ret : ∀ t' h' tk', Fr h₀ L h' m → News h₀ L h' news → Q (.str (inn2 x) t') { s with heap := h', toks := tk' }) :
    wpAny (model PySem.Challenge.rw_nb0235_01.row.prog w) (ktrTop dp un gd cn cs L a ccd cl outer) (call (.ref 115) [.str x t]) Q E s := by
  revert X; k_fill; intro X
  refine wpAny_call ?_
  k_dflt ktr_enter
  rename_i g' L' _ _ _ _ _ _ _
  refine cut (InA s g' L' news x t) ?_ ?_
  · k_steps
    all_goals first | exact trivial | unfold Hold
    · have e1 : fst1 x = 1 := by unfold fst1; rw [if_pos (beq_iff_eq.mp (by assumption))]
      exact ⟨_, _, _, _, rfl, by k_asm, by k_asm, rfl, by exact congrArg (fun z => some (Value.int z _)) e1.symm⟩
    · have e1 : fst1 x = 0 := by unfold fst1; rw [if_neg (beq_eq_false_iff_ne.mp (by assumption))]
      exact ⟨_, _, _, _, rfl, by k_asm, by k_asm, rfl, by exact congrArg (fun z => some (Value.int z _)) e1.symm⟩
  · rintro _ ⟨h₁, tk₁, m₁, t1, rfl, F₁, N₁, m1, m2⟩
    replace F₁ := puts F₁ [(Str.ofString "text", .str x t), (Str.ofString "first", .int (fst1 x) t1)] (pm m1 (pm m2 pn))
    dsimp only [putM] at F₁
    refine cut (InB s g' L' news x t) ?_ ?_
    · k_steps
      all_goals first | exact trivial | unfold Hold
      · exact ⟨_, _, _, _, _, rfl, by k_asm, by k_asm, rfl, rfl, by exact congrArg (fun z => some (Value.int ((x.length : Int) - z) _)) (if_pos (beq_iff_eq.mp (by assumption))).symm⟩
      · exact ⟨_, _, _, _, _, rfl, by k_asm, by k_asm, rfl, rfl, by exact congrArg (fun z => some (Value.int ((x.length : Int) - z) _)) (if_neg (beq_eq_false_iff_ne.mp (by assumption))).symm⟩
    · rintro _ ⟨h₁, tk₁, m₁, t1, t2, rfl, F₁, N₁, m1, m2, m3⟩
      replace F₁ := puts F₁ [(Str.ofString "text", .str x t), (Str.ofString "first", .int (fst1 x) t1), (Str.ofString "behind", .int ((x.length : Int) - (if Txt.slice (Txt.slice x (some (fst1 x)) none) (some (-1)) none = qq then 1 else 0)) t2)] (pm m1 (pm m2 (pm m3 pn)))
      dsimp only [putM] at F₁
      generalize hb : (x.length : Int) - (if Txt.slice (Txt.slice x (some (fst1 x)) none) (some (-1)) none = qq then 1 else 0) = b at F₁
      unfold inn2 at ret
      rw [hb] at ret
      k_steps
      exact ret _ _ _ (by k_asm) (by k_asm)
end Mine
end

section
-- RulesG
open PySem PySem.W PyProof.Rows PySem.Calls PySem.Spec PyProof.Rows.LCg
set_option Elab.async false
set_option maxRecDepth 100000
namespace Mine
noncomputable abbrev NoE : Value → Shared → Prop := fun _ _ => False
section
variable {prog : Program} {w : World} {A : Around} {E : Value → Shared → Prop} {s : Shared} {h₀ : Heap} {L : Addr} {m : Str → Option Value} {env : Env}
theorem comp_loop {elt target iter : Expr} {ifs : List Expr} {scope : Scope} {pos : Pos} {it acc : Value} {env : Env} {R : Result → Shared → Prop} (I : Nat → Shared → Prop)
    (turn : ∀ n s, I n s → wpAny (model prog w) A (pyNext it) (fun r s₁ => match r with
      | none => R (.ok .next) s₁
      | some v => wpAny (model prog w) A (letOwnedTupleGo target it v) (fun _ s₁' => wpAny (model prog w) A (assign target env v) (fun _ s₂ =>
          wpAny (model prog w) A (forIn ifs true fun c r => if r = true then do let ok ← isTrue c env (eval c env); pure (ForInStep.yield ok) else pure (ForInStep.yield r)) (fun ok s₃ =>
            if ok = true then wpAny (model prog w) A (eval elt env) (fun x s₄ =>
              wpAny (model prog w) A (call (.builtin "list.append") [acc, x]) (fun _ s₅ => ∃ m, m < n ∧ I m s₅) NoE s₄) NoE s₃
            else ∃ m, m < n ∧ I m s₃) NoE s₂) NoE s₁') NoE s₁) NoE s)
    (n : Nat) (h : I n s) :
    codeAny (model prog w) A (.compLoop (.ListComp elt [⟨target, iter, ifs, 0⟩] scope pos) 0 it acc env) R s := by
  refine codeAny_loop rfl I (fun n s hI => ?_) n h
  show wpAny _ A ((compTurn (.ListComp elt [⟨target, iter, ifs, 0⟩] scope pos) 0 it acc env).onRaise (fun x => do noteFrame x env; theTreesLotGoes x)) _ _ s
  refine wpAny_noted ?_
  rw [compTurn_list]
  refine wpAny_bind (wpAny_standAt (wpAny_bind (wpAny_mono (turn n s hI) (fun r s₁ h₁ => ?_) fun _ _ h' => h'.elim)))
  cases r with
  | none => exact wpAny_pure h₁
  | some v =>
    refine wpAny_bind (wpAny_mono h₁ (fun _ s₁' h₁' => ?_) fun _ _ h' => h'.elim)
    refine wpAny_bind (wpAny_mono h₁' (fun _ s₂ h₂ => wpAny_bind (wpAny_mono h₂ (fun ok s₃ h₃ => ?_) fun _ _ h' => h'.elim)) fun _ _ h' => h'.elim)
    cases ok with
    | false => exact wpAny_pure ⟨rfl, h₃⟩
    | true =>
      exact wpAny_bind (wpAny_bind (wpAny_mono h₃ (fun x s₄ h₄ => wpAny_bind (wpAny_mono h₄ (fun _ s₅ h₅ => wpAny_pure (wpAny_pure ⟨rfl, h₅⟩)) fun _ _ h' => h'.elim)) fun _ _ h' => h'.elim))

inductive LcEnd (h₀ : Heap) (L : Addr) (m : Str → Option Value) (s₂ : Shared) (C D : Addr) (J : Nat → List Value → List (Addr × Obj) → Prop) (n : Nat) (ys ys' : List Value) (s₅ : Shared) : Prop
  | mk (h' : Heap) (tk' : Nat) (oC' : Obj) (m' : Str → Option Value) (nw' : List (Addr × Obj)) (n' : Nat) (a1 : s₅ = { s₂ with heap := h', toks := tk' }) (a2 : NsObj oC' m') (a3 : Fr h₀ L h' m) (a4 : News h₀ L h' ((C, oC') :: (D, lst ys) :: nw')) (a5 : ∀ p ∈ nw', p.1 ≠ C ∧ p.1 ≠ D) (a6 : n' < n) (a7 : J n' ys' nw') : LcEnd h₀ L m s₂ C D J n ys ys' s₅
inductive LcOut (h₀ : Heap) (L : Addr) (m : Str → Option Value) (s₂ : Shared) (C D : Addr) (oC : Obj) (Fin : List Value → List (Addr × Obj) → Prop) (ys : List Value) (s₁ : Shared) : Prop
  | mk (h' : Heap) (tk' : Nat) (nw' : List (Addr × Obj)) (a1 : s₁ = { s₂ with heap := h', toks := tk' }) (a2 : Fr h₀ L h' m) (a3 : News h₀ L h' ((C, oC) :: (D, lst ys) :: nw')) (a4 : ∀ p ∈ nw', p.1 ≠ C ∧ p.1 ≠ D) (a5 : Fin ys nw') : LcOut h₀ L m s₂ C D oC Fin ys s₁
noncomputable def LcIf (prog : Program) (w : World) (A : Around) (h₀ : Heap) (L : Addr) (m : Str → Option Value) (s₂ : Shared) (cenv : Env) (elt : Expr) (C D : Addr) (J : Nat → List Value → List (Addr × Obj) → Prop) (n : Nat) (ys : List Value) (ok : Bool) (s₄ : Shared) : Prop :=
  if ok = true then wpAny (model prog w) A (eval elt cenv) (fun y s₅ => LcEnd h₀ L m s₂ C D J n ys (ys ++ [y]) s₅) NoE s₄ else LcEnd h₀ L m s₂ C D J n ys ys s₄
noncomputable def LcTurn (prog : Program) (w : World) (A : Around) (h₀ : Heap) (L : Addr) (m : Str → Option Value) (s₂ : Shared) (env : Env) (target : Expr) (it : Value) (ifs : List Expr) (elt : Expr) (scope : Scope) (cl : List (Str × Addr))
    (J : Nat → List Value → List (Addr × Obj) → Prop) (Fin : List Value → List (Addr × Obj) → Prop) : Prop :=
  ∀ n ys nw C oC D m₂ h tk, J n ys nw → NsObj oC m₂ → Fr h₀ L h m → News h₀ L h ((C, oC) :: (D, lst ys) :: nw) → C ≠ D → (∀ p ∈ nw, p.1 ≠ C ∧ p.1 ≠ D) →
    wpAny (model prog w) A (pyNext it) (fun r s₁ => match r with
      | none => LcOut h₀ L m s₂ C D oC Fin ys s₁
      | some v => wpAny (model prog w) A (letOwnedTupleGo target it v) (fun _ s₁' => wpAny (model prog w) A (assign target (compEnvC scope cl C env) v) (fun _ s₃ =>
          wpAny (model prog w) A (forIn ifs true fun c r => if r = true then do let ok ← isTrue c (compEnvC scope cl C env) (eval c (compEnvC scope cl C env)); pure (ForInStep.yield ok) else pure (ForInStep.yield r))
            (fun ok s₄ => LcIf prog w A h₀ L m s₂ (compEnvC scope cl C env) elt C D J n ys ok s₄) NoE s₃) NoE s₁') NoE s₁) NoE { s₂ with heap := h, toks := tk }

theorem lc_block {elt target iter : Expr} {ifs : List Expr} {scope : Scope} {cl : List (Str × Addr)} {pos : Pos} {s₂ : Shared} {it : Value} {news : List (Addr × Obj)} {J : Nat → List Value → List (Addr × Obj) → Prop} {Fin : List Value → List (Addr × Obj) → Prop} {n₀ : Nat}
    {RR : Value → Addr → Result → Shared → Prop} (hcell : ∀ y ∈ scope.names, y.2 ≠ .cell) (hkind : scope.kind = .function)
    (F : Fr h₀ L s₂.heap m) (N : News h₀ L s₂.heap news) (h0 : J n₀ [] news) (hJ : ∀ n ys nw, J n ys nw → ys.length < 1000)
    (hself : ∀ h tk (Q' : Value → Shared → Prop), (∀ b o, s₂.heap.get? b = some o → h.get? b = some o) → Q' it { s₂ with heap := h, toks := tk } → wpAny (model prog w) A (pyIter it) Q' NoE { s₂ with heap := h, toks := tk })
    (turn : LcTurn prog w A h₀ L m s₂ env target it ifs elt scope cl J Fin)
    (hRR : ∀ D C h tk m' ys nw', Fr h₀ L h m → News h₀ L h ((D, lst ys) :: nw') → (∀ p ∈ nw', p.1 ≠ D) → h.Ns C m' → h₀.get? C = none → C ≠ L → C ≠ D → (∀ p ∈ nw', p.1 ≠ C) → Fin ys nw' → RR (.ref D) C (.ok .next) { s₂ with heap := h, toks := tk }) :
    wpAny (model prog w) A (newList []) (fun acc s₃ => wpAny (model prog w) A (newFunctionEnv scope env.globals cl [] env.qual none .none (some env)) (fun cenv s₄ =>
      codeAny (model prog w) A (.compStart (.ListComp elt [⟨target, iter, ifs, 0⟩] scope pos) 0 it acc { cenv with scope := relabel scope env }) (RR acc cenv.locals) s₄) E s₃) E s₂ := by
  refine wpAny_newObj_type (wpAny_newFunctionEnv hcell (by intro y hy; simp at hy) (fun h₁ hns₁ hsb₁ => ?_) hkind)
  dsimp only at hns₁ hsb₁ ⊢
  generalize hH2 : s₂.heap.push { cls := .type "list", dict := none, data := .seq ([] : List Value).toArray } = H2 at hns₁ hsb₁ ⊢
  have hC : H2.objs.size = s₂.heap.objs.size + 1 := by rw [← hH2, Heap.size_push]
  have hDC : s₂.heap.objs.size ≠ H2.objs.size := by rw [hC]; exact Nat.ne_of_lt (Nat.lt_succ_self _)
  have below : ∀ b, b < s₂.heap.objs.size → b ≠ H2.objs.size ∧ b ≠ s₂.heap.objs.size := fun b hb => ⟨by rw [hC]; exact Nat.ne_of_lt (Nat.lt_succ_of_lt hb), Nat.ne_of_lt hb⟩
  have old : ∀ b o, s₂.heap.get? b = some o → h₁.get? b = some o := fun b o e => hsb₁.extBut b o (below b (Heap.lt_size e)).1 (Heap.get?_push_of_some _ (hH2 ▸ Heap.get?_push_of_some _ e))
  have hacc : h₁.get? s₂.heap.objs.size = some (lst []) := hsb₁.extBut _ _ hDC (Heap.get?_push_of_some _ (hH2 ▸ Heap.get?_push_size _ rfl))
  have fresh : ∀ a, s₂.heap.objs.size ≤ a → s₂.heap.get? a = none := fun a ha => by
    cases e : s₂.heap.get? a with
    | none => rfl
    | some o' => exact absurd (Heap.lt_size e) (Nat.not_lt.mpr ha)
  have fresh₀ : ∀ a, s₂.heap.objs.size ≤ a → h₀.get? a = none := fun a ha => by
    cases e : h₀.get? a with
    | none => rfl
    | some o' => have := F.keep a o' e; rw [fresh a ha] at this; cases this
  have hD₀ : h₀.get? s₂.heap.objs.size = none := fresh₀ _ (Nat.le_refl _)
  have hC₀ : h₀.get? H2.objs.size = none := fresh₀ _ (by rw [hC]; exact Nat.le_succ _)
  have hLlt : L < s₂.heap.objs.size := F.ns.lt
  have hDL : s₂.heap.objs.size ≠ L := Ne.symm (below L hLlt).2
  have hCL : H2.objs.size ≠ L := Ne.symm (below L hLlt).1
  obtain ⟨oC₁, heC₁, hoC₁⟩ := ns_obj hns₁
  have N₁ : News h₀ L h₁ ((H2.objs.size, oC₁) :: (s₂.heap.objs.size, lst []) :: news) := fun p hp => by
    rcases List.mem_cons.mp hp with rfl | hp
    · exact ⟨heC₁, hCL, hC₀⟩
    · rcases List.mem_cons.mp hp with rfl | hp
      · exact ⟨hacc, hDL, hD₀⟩
      · exact ⟨old _ _ (N p hp).1, (N p hp).2⟩
  have off₁ : ∀ p ∈ news, p.1 ≠ H2.objs.size ∧ p.1 ≠ s₂.heap.objs.size := fun p hp => below _ (Heap.lt_size (N p hp).1)
  have loop : codeAny (model prog w) A (.compLoop (.ListComp elt [⟨target, iter, ifs, 0⟩] scope pos) 0 it (.ref s₂.heap.objs.size) (compEnvC scope cl H2.objs.size env)) (RR (.ref s₂.heap.objs.size) H2.objs.size)
      { s₂ with heap := h₁, toks := s₂.toks + ([] : List (Str × Value)).length } := by
    refine comp_loop (fun n s' => ∃ ys nw oC m₂ h tk, s' = { s₂ with heap := h, toks := tk } ∧ J n ys nw ∧ NsObj oC m₂ ∧ Fr h₀ L h m ∧ News h₀ L h ((H2.objs.size, oC) :: (s₂.heap.objs.size, lst ys) :: nw) ∧ (∀ p ∈ nw, p.1 ≠ H2.objs.size ∧ p.1 ≠ s₂.heap.objs.size)) ?_ n₀
      ⟨[], news, oC₁, _, h₁, _, rfl, h0, hoC₁, F.keeps old, N₁, off₁⟩
    rintro n _ ⟨ys, nw, oC, m₂, h, tk, rfl, hj, hoC, F', N', off'⟩
    refine wpAny_mono (turn n ys nw H2.objs.size oC s₂.heap.objs.size m₂ h tk hj hoC F' N' (Ne.symm hDC) off') (fun r s₁ h₁ => ?_) fun _ _ e => e
    cases r with
    | none =>
      obtain ⟨h', tk', nw', rfl, F₃, N₃, off₃, fin⟩ := h₁
      exact hRR _ _ h' tk' m₂ ys nw' F₃ (fun p hp => N₃ p (.tail _ hp)) (fun p hp => (off₃ p hp).2) (hoC.ns (N₃ _ (.head _)).1) hC₀ hCL (Ne.symm hDC) (fun p hp => (off₃ p hp).1) fin
    | some v =>
      refine wpAny_mono h₁ (fun _ s₁' h₁' => wpAny_mono h₁' (fun _ s₃ h₃ => wpAny_mono h₃ (fun ok s₄ h₄ => ?_) fun _ _ e => e) fun _ _ e => e) fun _ _ e => e
      unfold LcIf at h₄
      cases ok with
      | false =>
        simp only [Bool.false_eq_true, if_false] at h₄ ⊢
        obtain ⟨h', tk', oC', m', nw', n', rfl, a1, a2, a3, a4, a5, a6⟩ := h₄
        exact ⟨n', a5, ys, nw', oC', m', h', tk', rfl, a6, a1, a2, a3, a4⟩
      | true =>
        simp only [if_true] at h₄ ⊢
        refine wpAny_mono h₄ (fun y s₅ h₅ => ?_) fun _ _ e => e
        obtain ⟨h', tk', oC', m', nw', n', rfl, a1, a2, a3, a4, a5, a6⟩ := h₅
        have zD := a3 _ (.tail _ (.head _))
        have hyl := hJ _ _ _ hj
        refine append_at (hsz := by show ys.toArray.size ≤ sizeLine; rw [List.size_toArray, sizeLine_eq]; lia) zD.1 fun h₆ hs₆ hD₆ => ?_
        refine ⟨n', a5, ys ++ [y], nw', oC', m', h₆, tk', rfl, a6, a1, a2.change hs₆ hDL hD₀, fun p hp => ?_, a4⟩
        rcases List.mem_cons.mp hp with rfl | hp
        · exact ⟨(hs₆.2 _ (Ne.symm hDC)).trans (a3 _ (.head _)).1, hCL, hC₀⟩
        · rcases List.mem_cons.mp hp with rfl | hp
          · exact ⟨hD₆.trans (congrArg some (lst_snoc ys y)), hDL, hD₀⟩
          · exact ⟨(hs₆.2 _ (a4 p hp).2).trans (a3 p (.tail _ (.tail _ hp))).1, (a3 p (.tail _ (.tail _ hp))).2⟩
  exact codeAny_compStart_list loop (wpAny_mono (hself _ _ (fun it' s' => it' = it ∧ s' = { s₂ with heap := h₁, toks := s₂.toks + ([] : List (Str × Value)).length }) old ⟨rfl, rfl⟩) (fun it' s' hh => by obtain ⟨rfl, rfl⟩ := hh; exact loop) fun _ _ e => e.elim)

/-- what stands behind the source's iterator -/
noncomputable def LcAt (prog : Program) (w : World) (A : Around) (h₀ : Heap) (L : Addr) (m : Str → Option Value) (env : Env) (target : Expr) (ifs : List Expr) (elt : Expr) (scope : Scope) (cl : List (Str × Addr)) (Fin : Shared → List Value → List (Addr × Obj) → Prop) (it : Value) (s₂ : Shared) : Prop :=
  ∃ news J n₀, Fr h₀ L s₂.heap m ∧ News h₀ L s₂.heap news ∧ J n₀ [] news ∧ (∀ n ys nw, J n ys nw → ys.length < 1000) ∧
    (∀ h tk (Q' : Value → Shared → Prop), (∀ b o, s₂.heap.get? b = some o → h.get? b = some o) → Q' it { s₂ with heap := h, toks := tk } → wpAny (model prog w) A (pyIter it) Q' NoE { s₂ with heap := h, toks := tk }) ∧
    LcTurn prog w A h₀ L m s₂ env target it ifs elt scope cl J (Fin s₂)
noncomputable def FinV (h₀ : Heap) (L : Addr) (m : Str → Option Value) (s : Shared) (Q : Value → Shared → Prop) (ys : List Value) (news : List (Addr × Obj)) : Prop :=
  ∀ D h tk, Fr h₀ L h m → News h₀ L h ((D, lst ys) :: news) → (∀ p ∈ news, p.1 ≠ D) → Q (.ref D) { s with heap := h, toks := tk }
noncomputable def FinS (h₀ : Heap) (L : Addr) (m : Str → Option Value) (s : Shared) (y : Str) (Q : Flow → Shared → Prop) (ys : List Value) (news : List (Addr × Obj)) : Prop :=
  ∀ D h tk, Fr h₀ L h (fun z => if z = y then some (.ref D) else m z) → News h₀ L h ((D, lst ys) :: news) → (∀ p ∈ news, p.1 ≠ D) → Q .next { s with heap := h, toks := tk }

theorem lc_value {elt target iter : Expr} {ifs : List Expr} {scope : Scope} {cl : List (Str × Addr)} {pos : Pos} {Q : Value → Shared → Prop}
    (hclos : closureFor scope env = pure cl) (hcell : ∀ y ∈ scope.names, y.2 ≠ .cell) (hkind : scope.kind = .function)
    (hnames : ∀ y ∈ scope.names, y.2 = .local → scope.names.lookup y.1 = some .local)
    (h : wpAny (model prog w) A (eval iter env) (fun xv s₁ => wpAny (model prog w) A (pyIter xv) (fun it s₂ => LcAt prog w A h₀ L m env target ifs elt scope cl (fun s₂ => FinV h₀ L m s₂ Q) it s₂) E s₁) E s)
    (hs : ∀ x, foldedSetIterable iter env x = pure x := by intro _; rfl) :
    wpAny (model prog w) A (eval (.ListComp elt [⟨target, iter, ifs, 0⟩] scope pos) env) Q E s := by
  rw [eval_ListComp]
  refine wpAny_comprehension_free (use := none) rfl hs hclos hkind hnames (wpAny_mono h (fun xv s₁ h₁ => wpAny_mono h₁ (fun it s₂ h₂ => ?_) fun _ _ e => e) fun _ _ e => e)
  obtain ⟨news, J, n₀, F, N, h0, hJ, hself, turn⟩ := h₂
  refine lc_block hcell hkind F N h0 hJ hself turn ?_
  intro D C h tk m' ys nw' F' N' oD hn hC₀ hCL hCD offC fin
  refine ⟨m', hn, fun h'' hs'' => fin D h'' tk (F'.change hs'' hCL hC₀) (fun p hp => ?_) oD⟩
  refine ⟨hs''.extBut _ _ ?_ (N' p hp).1, (N' p hp).2⟩
  rcases List.mem_cons.mp hp with rfl | hp
  · exact Ne.symm hCD
  · exact offC p hp

theorem lc_assign {elt target iter : Expr} {y : Str} {py : Pos} {ifs : List Expr} {scope : Scope} {cl : List (Str × Addr)} {pos spos : Pos} {Q : Flow → Shared → Prop} (hLe : env.locals = L)
    (hsw : swapsWith (.ListComp elt [⟨target, iter, ifs, 0⟩] scope pos) (some (.Name y py)) spos.line env = pure true)
    (hclos : closureFor scope env = pure cl) (hcell : ∀ y ∈ scope.names, y.2 ≠ .cell) (hkind : scope.kind = .function)
    (hnames : ∀ y ∈ scope.names, y.2 = .local → scope.names.lookup y.1 = some .local)
    (hy : env.kindOf y = some .local) (hp : (env.scope.kind == .class || (env.scope.kind == .module && env.locals != env.globals)) = false)
    (h : wpAny (model prog w) A (eval iter env) (fun xv s₁ => wpAny (model prog w) A (pyIter xv) (fun it s₂ => LcAt prog w A h₀ L m env target ifs elt scope cl (fun s₂ => FinS h₀ L m s₂ y Q) it s₂) E s₁) E s)
    (hs : ∀ x, foldedSetIterable iter env x = pure x := by intro _; rfl) :
    wpAny (model prog w) A (exec (.Assign [.Name y py] (.ListComp elt [⟨target, iter, ifs, 0⟩] scope pos) spos) env) Q E s := by
  subst hLe
  rw [exec_Assign_Name_used _ _ _ _ hsw]
  refine wpAny_bind (wpAny_standAt (wpAny_bind ?_))
  show wpAny _ A (do let _ ← comprehension (.ListComp elt [⟨target, iter, ifs, 0⟩] scope pos) scope env _ (newList []) false (eval iter env) (some (assign (.Name y py) env))) _ _ s
  refine wpAny_bind (wpAny_mono (wpAny_comprehension_free (use := some (assign (.Name y py) env)) (Q := fun _ s' => Q .next s') rfl hs hclos hkind hnames
    (wpAny_mono h (fun xv s₁ h₁ => wpAny_mono h₁ (fun it s₂ h₂ => ?_) fun _ _ e => e) fun _ _ e => e)) (fun _ s' hq => wpAny_pure (wpAny_pure hq)) fun _ _ e => e)
  obtain ⟨news, J, n₀, F, N, h0, hJ, hself, turn⟩ := h₂
  refine lc_block hcell hkind F N h0 hJ hself turn ?_
  intro D C h' tk m' ys nw' F' N' oD hn hC₀ hCL hCD offC fin
  show wpAny _ A (assign (.Name y py) env (.ref D)) _ _ _
  refine wpAny_assign_Name (wpAny_storeName_local hy F'.ns (fun h₂ hn₂ hs₂ => ?_) hp)
  have hL₀ : h₀.get? env.locals = none := Heap.get?_none_of_le F'.above
  have F₂ : Fr h₀ env.locals h₂ (fun z => if z = y then some (.ref D) else m z) := ⟨hn₂, fun b o e => hs₂.extBut b o (fun q => by rw [q, hL₀] at e; cases e) (F'.keep b o e), F'.above⟩
  refine ⟨m', hn.sameBut hs₂ hCL, fun h'' hs'' => fin D h'' _ (F₂.change hs'' hCL hC₀) (fun p hp => ?_) oD⟩
  have z : h₂.get? p.1 = some p.2 := hs₂.extBut _ _ (N' p hp).2.1 (N' p hp).1
  refine ⟨hs''.extBut _ _ ?_ z, (N' p hp).2⟩
  rcases List.mem_cons.mp hp with rfl | hp
  · exact Ne.symm hCD
  · exact offC p hp
end
end Mine
end

section
-- RulesH
open PySem PySem.W PyProof.Rows PySem.Calls PySem.Spec PyProof.Rows.LCg
set_option Elab.async false
set_option maxRecDepth 100000
namespace Mine
noncomputable abbrev Up (h h' : Heap) : Prop := ∀ b o, h.get? b = some o → h'.get? b = some o
noncomputable abbrev StopAt (h : Heap) (e : Addr) : Prop := ∃ o, h.get? e = some o ∧ o.cls = .type "StopIteration"
section
variable {prog : Program} {w : World} {A : Around} {E : Value → Shared → Prop} {s : Shared}
theorem stop_raise {α : Type} {Q : α → Shared → Prop} (hh : A.handled = none) (hE : ∀ h' e, Up s.heap h' → StopAt h' e → E (.ref e) { s with heap := h' }) :
    wpAny (model prog w) A (newExc (.type "StopIteration") [] >>= fun e => raiseNew e : Sem α) Q E s := by
  refine wpAny_bind ?_
  simp only [newExc, newTuple]
  refine wpAny_bind (wpAny_newObj_type ?_ (by size_fits))
  refine wpAny_bind (m := firstArgMember _ _) (wpAny_of_eq (a := Value.none) (by first | rfl | (simp only [firstArgMember]; rfl)) ?_)
  refine wpAny_newObj_type ?_ (by size_fits)
  simp only [raiseNew]
  refine wpAny_bind (wpAny_handled ?_)
  rw [hh]
  refine wpAny_bind (wpAny_pure (wpAny_throw ?_))
  exact hE _ _ (fun b o e => Heap.get?_push_of_some _ (Heap.get?_push_of_some _ e)) ⟨_, Heap.get?_push_size _ rfl, rfl⟩

theorem nextOf_range_item {it : Addr} {x left step : Int} {Q : Value → Shared → Prop} (hit : IsRangeIter s.heap it x left step) (hleft : 0 < left)
    (hQ : ∀ h', IsRangeIter h' it (x + step) (left - 1) step → Heap.SameBut it s.heap h' → Q (.int x s.toks) { s with heap := h', toks := s.toks + 1 }) :
    wpAny (model prog w) A (Builtin.SmallTypes.nextOf (.ref it)) Q E s := by
  have hT : s.TypeIs (.ref it) "range_iterator" := ⟨_, hit, rfl⟩
  unfold Builtin.SmallTypes.nextOf
  refine wpAny_bind (wpAny_callSpecial?_slot (name := Str.ofString "__next__") hT PySem.F.slot_range_iterator_next
    (call_meets PySem.F.slot_range_iterator_next hT PySem.F.entry_range_iterator_next (PySem.F.args_range_iterator_next_1 _) (AutoRange.range_iterator___next___range_iterator_1 it x left step (by lia)) ⟨hit, ?_⟩))
  exact wpAny_pure (hQ _ (Heap.get?_update_self _ (Heap.get?_update_self _ hit rfl) rfl) ((Heap.SameBut.update ..).trans (Heap.SameBut.update ..)))
theorem nextOf_range_end {it : Addr} {x left step : Int} {Q : Value → Shared → Prop} (hh : A.handled = none) (hit : IsRangeIter s.heap it x left step) (hleft : left ≤ 0)
    (hE : ∀ h' e, Up s.heap h' → StopAt h' e → E (.ref e) { s with heap := h' }) : wpAny (model prog w) A (Builtin.SmallTypes.nextOf (.ref it)) Q E s := by
  have hT : s.TypeIs (.ref it) "range_iterator" := ⟨_, hit, rfl⟩
  unfold Builtin.SmallTypes.nextOf
  refine wpAny_bind (wpAny_callSpecial?_slot (name := Str.ofString "__next__") hT PySem.F.slot_range_iterator_next
    (wpAny_call_entry PySem.F.slot_range_iterator_next hT PySem.F.entry_range_iterator_next ?_ (PySem.F.args_range_iterator_next_1 _)))
  show wpAny _ _ (field (.ref it) 0 >>= _) _ _ s
  refine wpAny_bind (wpAny_field hit rfl (x := rawInt x) rfl ?_)
  show wpAny _ _ (field (.ref it) 1 >>= _) _ _ s
  refine wpAny_bind (wpAny_field hit rfl (x := rawInt left) rfl ?_)
  show wpAny _ _ (field (.ref it) 2 >>= _) _ _ s
  refine wpAny_bind (wpAny_field hit rfl (x := rawInt step) rfl ?_)
  show wpAny _ _ (if left ≤ 0 then _ else _) _ _ s
  rw [if_pos hleft]
  refine wpAny_bind (wpAny_rule ?_)
  exact wpAny_bind (stop_raise (by show A.in1.handled = none; exact hh) hE)

/-- a list's iterator that has ended -/
noncomputable def Ended (o : Obj) : Prop := o.cls = .type "list_iterator" ∧ ∃ v, o.data = .fields #[.none, v]
theorem nextOf_list_end {it l : Addr} {i : Nat} {items : Array Value} {Q : Value → Shared → Prop} (hh : A.handled = none)
    (hit : s.heap.IsListIter it l i) (hl : s.heap.IsList l items) (hx : items[i]? = none)
    (hE : ∀ h' e o', Heap.ExtBut it s.heap h' → h'.get? it = some o' → Ended o' → StopAt h' e → E (.ref e) { s with heap := h' }) :
    wpAny (model prog w) A (Builtin.SmallTypes.nextOf (.ref it)) Q E s := by
  obtain ⟨o, ho, hc, hd⟩ := id hit
  obtain ⟨ol, hol, _, nl, hdl⟩ := hl
  unfold Builtin.SmallTypes.nextOf
  refine wpAny_bind (wpAny_callSpecial?_slot (name := Str.ofString "__next__") hit.typeIs slot_listiter_next
    (wpAny_call_entry slot_listiter_next hit.typeIs entry_listiter_next ?_ (args_listiter_next _)))
  show wpAny _ _ (field (.ref it) 0 >>= _) _ _ s
  refine wpAny_bind (wpAny_field ho hd (x := .ref l) rfl ?_)
  show wpAny _ _ (if (Value.ref l == Value.none) = true then _ else _) _ _ s
  rw [if_neg (show ¬ ((Value.ref l == Value.none) = true) from Bool.false_ne_true)]
  show wpAny _ _ (field (.ref it) 1 >>= _) _ _ s
  refine wpAny_bind (wpAny_field ho hd (x := .int i 0) rfl ?_)
  show wpAny _ _ (seqItems? (.ref l) >>= _) _ _ s
  refine wpAny_bind (wpAny_seqItems hol hdl ?_)
  simp only [Int.toNat_natCast, hx]
  refine wpAny_bind (wpAny_rule (wpAny_bind (wpAny_setField ho hd (by simp) ?_)))
  refine stop_raise (by show A.in1.handled = none; exact hh) fun h' e up st => hE h' e _ (fun b o' hb q => up b o' ((Heap.SameBut.update ..).extBut b o' hb q)) (up _ _ (Heap.get?_update_self _ ho (Obj.isFreed_of_fields (Obj.data_mapFields hd _)))) ?_ st
  exact ⟨(Obj.cls_mapFields ..).trans hc, _, by rw [Obj.data_mapFields hd]; simp; rfl⟩
theorem next_ended {it : Addr} {o : Obj} {Q : Option Value → Shared → Prop} (hh : A.handled = none) (ho : s.heap.get? it = some o) (he : Ended o)
    (hQ : ∀ h', Up s.heap h' → Q none { s with heap := h' }) : wpAny (model prog w) A (pyNext (.ref it)) Q E s := by
  obtain ⟨hc, v, hd⟩ := he
  have hT : s.TypeIs (.ref it) "list_iterator" := ⟨_, ho, hc⟩
  unfold pyNext
  refine wpAny_bind (wpAny_attempt (wpAny_callSpecial?_slot (name := Str.ofString "__next__") hT slot_listiter_next
    (wpAny_call_entry slot_listiter_next hT entry_listiter_next ?_ (args_listiter_next _))))
  show wpAny _ _ (field (.ref it) 0 >>= _) _ _ s
  refine wpAny_bind (wpAny_field ho hd (x := .none) rfl ?_)
  show wpAny _ _ (if (Value.none == Value.none) = true then _ else _) _ _ s
  rw [if_pos (show ((Value.none == Value.none) = true) from rfl)]
  refine wpAny_bind (wpAny_rule (wpAny_bind (stop_raise (by show A.in1.handled = none; exact hh) fun h' e up st => ?_)))
  obtain ⟨oe, h1, h2⟩ := st
  refine wpAny_bind (wpAny_isInstance (T := "StopIteration") (b := true) ⟨oe, h1, h2⟩ isSubtype_stop ?_)
  exact wpAny_pure (hQ _ up)
end
end Mine
end

section
-- RulesI
open PySem PySem.W PyProof.Rows PySem.Calls PySem.Spec PyProof.Rows.LCg
set_option Elab.async false
set_option maxRecDepth 100000
namespace Mine
structure ZA (z TI TO i1 i2 l : Addr) : Prop where
  TIz : TI ≠ z
  TOz : TO ≠ z
  i1z : i1 ≠ z
  i2z : i2 ≠ z
  TITO : TI ≠ TO
  TIi1 : TI ≠ i1
  TIi2 : TI ≠ i2
  TOi1 : TO ≠ i1
  TOi2 : TO ≠ i2
  i12 : i1 ≠ i2
  lz : l ≠ z
  lTO : l ≠ TO
  li1 : l ≠ i1
  li2 : l ≠ i2
section
variable {prog : Program} {w : World} {A : Around} {E : Value → Shared → Prop} {s : Shared}
theorem zip_item {z TI TO i1 i2 l : Addr} {x left step : Int} {k : Nat} {ys : Array Value} {y a b : Value} {Q : Value → Shared → Prop} (D : ZA z TI TO i1 i2 l)
    (hz : IsZip s.heap z TI TO .none) (hTI : IsPair s.heap TI (.ref i1) (.ref i2)) (hTO : IsPair s.heap TO a b)
    (h1 : IsRangeIter s.heap i1 x left step) (hleft : 0 < left) (h2 : s.heap.IsListIter i2 l k) (hl : s.heap.IsList l ys) (hy : ys[k]? = some y)
    (hQ : ∀ h', IsZip h' z TI TO (rawInt s.heap.objs.size) → IsPair h' TO (.int x s.toks) y → IsRangeIter h' i1 (x + step) (left - 1) step → h'.IsListIter i2 l (k + 1) → IsPair h' s.heap.objs.size (.int x s.toks) y → h'.objs.size = s.heap.objs.size + 1 →
      (∀ c o, c ≠ z → c ≠ TO → c ≠ i1 → c ≠ i2 → s.heap.get? c = some o → h'.get? c = some o) → Q (.ref s.heap.objs.size) { s with heap := h', toks := s.toks + 1 }) :
    wpAny (model prog w) A (Builtin.«zip.__next__» ⟨[.ref z], []⟩) (fun fin s' => ∃ v, fin = .done (.ret v) ∧ Q v s') E s := by
  show wpAny _ _ (field (.ref z) 2 >>= _) _ _ _
  refine wpAny_bind (wpAny_field hz rfl (x := .bool false) rfl ?_)
  show wpAny _ _ (field (.ref z) 3 >>= _) _ _ _
  refine wpAny_bind (wpAny_field hz rfl (x := .ref TI) rfl ?_)
  refine wpAny_bind (wpAny_seqItems hTI rfl ?_)
  show wpAny _ _ (Builtin.SmallTypes.ownedTupleIsFree (.ref z) >>= _) _ _ _
  refine wpAny_bind ?_
  unfold Builtin.SmallTypes.ownedTupleIsFree
  refine wpAny_bind (wpAny_field hz rfl (x := .none) rfl (wpAny_pure ?_))
  simp only [if_true]
  refine wpAny_bind (wpAny_rule ?_)
  refine wpAny_bind (wpAny_field hz rfl (x := .ref TO) rfl ?_)
  refine wpAny_bind (wpAny_setField_rec hz (by simp) fun h₁ hz₁ hs₁ => ?_)
  replace hz₁ : IsZip h₁ z TI TO .ellipsis := hz₁
  refine wpAny_bind ?_
  simp only [List.zipIdx_cons, List.zipIdx_nil, List.forIn_cons, List.forIn_nil]
  refine wpAny_bind (wpAny_bind (wpAny_onRaise ?_))
  show wpAny _ _ (Builtin.SmallTypes.nextOf (.ref i1) >>= _) _ _ _
  refine wpAny_bind (nextOf_range_item (show IsRangeIter h₁ i1 x left step from hs₁.extBut _ _ D.i1z h1) hleft fun h₂ h1₂ hs₂ => wpAny_pure ?_)
  have hTO₂ : IsPair h₂ TO a b := hs₂.extBut _ _ D.TOi1 (hs₁.extBut _ _ D.TOz hTO)
  refine wpAny_bind (wpAny_seqItems hTO₂ rfl ?_)
  refine wpAny_bind (wpAny_updateSeq_pair hTO₂ fun h₃ hTO₃ hs₃ => ?_)
  replace hTO₃ : IsPair h₃ TO (.int x s.toks) b := hTO₃
  refine wpAny_bind (wpAny_letGo (wpAny_pure ?_))
  refine wpAny_bind (wpAny_bind (wpAny_onRaise ?_))
  show wpAny _ _ (Builtin.SmallTypes.nextOf (.ref i2) >>= _) _ _ _
  refine wpAny_bind (wpAny_nextOf_list_item (((h2.extBut hs₁.extBut D.i2z).extBut hs₂.extBut D.i12.symm).extBut hs₃.extBut D.TOi2.symm)
    (((hl.extBut hs₁.extBut D.lz).extBut hs₂.extBut D.li1).extBut hs₃.extBut D.lTO) hy fun h₄ h2₄ hs₄ => wpAny_pure ?_)
  have hTO₄ : IsPair h₄ TO (.int x s.toks) b := hs₄.extBut _ _ D.TOi2 hTO₃
  refine wpAny_bind (wpAny_seqItems hTO₄ rfl ?_)
  refine wpAny_bind (wpAny_updateSeq_pair hTO₄ fun h₅ hTO₅ hs₅ => ?_)
  replace hTO₅ : IsPair h₅ TO (.int x s.toks) y := hTO₅
  refine wpAny_bind (wpAny_letGo (wpAny_pure (wpAny_pure ?_)))
  refine wpAny_bind (wpAny_seqItems hTO₅ rfl ?_)
  refine wpAny_bind (wpAny_newTuple ?_)
  have hsz : h₅.objs.size = s.heap.objs.size := by rw [hs₅.1, hs₄.1, hs₃.1, hs₂.1, hs₁.1]
  have hz₅ : IsZip h₅ z TI TO .ellipsis := hs₅.extBut _ _ D.TOz.symm (hs₄.extBut _ _ D.i2z.symm (hs₃.extBut _ _ D.TOz.symm (hs₂.extBut _ _ D.i1z.symm hz₁)))
  have hk₅ : ∀ c o, c ≠ z → c ≠ TO → c ≠ i1 → c ≠ i2 → s.heap.get? c = some o → h₅.get? c = some o := fun c o c1 c2 c3 c4 e =>
    hs₅.extBut _ _ c2 (hs₄.extBut _ _ c4 (hs₃.extBut _ _ c2 (hs₂.extBut _ _ c3 (hs₁.extBut _ _ c1 e))))
  have h1₅ : IsRangeIter h₅ i1 (x + step) (left - 1) step := hs₅.extBut _ _ D.TOi1.symm (hs₄.extBut _ _ D.i12 (hs₃.extBut _ _ D.TOi1.symm h1₂))
  have h2₅ : h₅.IsListIter i2 l (k + 1) := h2₄.extBut hs₅.extBut D.TOi2.symm
  have hzlt : z < h₅.objs.size := Heap.lt_size hz₅
  show wpAny _ _ (Builtin.SmallTypes.ownedTupleHandOut (.ref z) (.ref h₅.objs.size) >>= _) _ _ _
  refine wpAny_bind ?_
  unfold Builtin.SmallTypes.ownedTupleHandOut
  have hz₆ : IsZip (h₅.push { cls := .type "tuple", data := .seq #[.int x s.toks, y] }) z TI TO .ellipsis := Heap.get?_push_of_some _ hz₅
  refine wpAny_bind (wpAny_setField_rec hz₆ (by simp) fun h₇ hz₇ hs₇ => ?_)
  replace hz₇ : IsZip h₇ z TI TO (rawInt h₅.objs.size) := hz₇
  refine wpAny_setField_rec hz₇ (by simp) fun h₈ hz₈ hs₈ => ?_
  replace hz₈ : IsZip h₈ z TI TO (rawInt h₅.objs.size) := hz₈
  have up : ∀ c o, c ≠ z → h₅.get? c = some o → h₈.get? c = some o := fun c o c1 e => hs₈.extBut _ _ c1 (hs₇.extBut _ _ c1 (Heap.get?_push_of_some _ e))
  have hT₈ : IsPair h₈ h₅.objs.size (.int x s.toks) y := hs₈.extBut _ _ (Nat.ne_of_gt hzlt) (hs₇.extBut _ _ (Nat.ne_of_gt hzlt) (Heap.get?_push_size _ rfl))
  have hz8 : h₈.objs.size = h₅.objs.size + 1 := by rw [hs₈.1, hs₇.1, Heap.size_push]
  rw [hsz] at hz₈ hT₈ hz8
  refine wpAny_pure ⟨_, rfl, ?_⟩
  show Q (.ref h₅.objs.size) _
  rw [hsz]
  exact hQ h₈ hz₈ (up _ _ D.TOz hTO₅) (up _ _ D.i1z h1₅) (h2₅.at fun o e => up _ o D.i2z e) hT₈ hz8 fun c o c1 c2 c3 c4 e => up c o c1 (hk₅ c o c1 c2 c3 c4 e)

/-- the range has ended: the list's iterator is as it was -/
theorem zip_end1 {z TI TO i1 i2 l : Addr} {x left step : Int} {a b : Value} {Q : PySem.Fin → Shared → Prop} (hh : A.handled = none) (D : ZA z TI TO i1 i2 l)
    (hz : IsZip s.heap z TI TO .none) (hTI : IsPair s.heap TI (.ref i1) (.ref i2)) (hTO : IsPair s.heap TO a b)
    (h1 : IsRangeIter s.heap i1 x left step) (hleft : left ≤ 0)
    (hE : ∀ h' e, (∀ c o, c ≠ z → s.heap.get? c = some o → h'.get? c = some o) → StopAt h' e → E (.ref e) { s with heap := h' }) :
    wpAny (model prog w) A (Builtin.«zip.__next__» ⟨[.ref z], []⟩) Q E s := by
  show wpAny _ _ (field (.ref z) 2 >>= _) _ _ _
  refine wpAny_bind (wpAny_field hz rfl (x := .bool false) rfl ?_)
  show wpAny _ _ (field (.ref z) 3 >>= _) _ _ _
  refine wpAny_bind (wpAny_field hz rfl (x := .ref TI) rfl ?_)
  refine wpAny_bind (wpAny_seqItems hTI rfl ?_)
  show wpAny _ _ (Builtin.SmallTypes.ownedTupleIsFree (.ref z) >>= _) _ _ _
  refine wpAny_bind ?_
  unfold Builtin.SmallTypes.ownedTupleIsFree
  refine wpAny_bind (wpAny_field hz rfl (x := .none) rfl (wpAny_pure ?_))
  simp only [if_true]
  refine wpAny_bind (wpAny_rule ?_)
  refine wpAny_bind (wpAny_field hz rfl (x := .ref TO) rfl ?_)
  refine wpAny_bind (wpAny_setField_rec hz (by simp) fun h₁ hz₁ hs₁ => ?_)
  replace hz₁ : IsZip h₁ z TI TO .ellipsis := hz₁
  refine wpAny_bind ?_
  simp only [List.zipIdx_cons, List.zipIdx_nil, List.forIn_cons, List.forIn_nil]
  refine wpAny_bind (wpAny_bind (wpAny_onRaise ?_))
  show wpAny _ _ (Builtin.SmallTypes.nextOf (.ref i1) >>= _) _ _ _
  refine wpAny_bind (nextOf_range_end hh (show IsRangeIter h₁ i1 x left step from hs₁.extBut _ _ D.i1z h1) hleft fun h₂ e up st => ?_)
  obtain ⟨oe, hoe, hce⟩ := st
  have hz₂ : IsZip h₂ z TI TO .ellipsis := up _ _ hz₁
  have hez : e ≠ z := fun q => by subst q; rw [hz₂] at hoe; cases hoe; simp at hce
  exact wpAny_setField_rec hz₂ (by simp) fun h₃ _ hs₃ => hE h₃ e (fun c o c1 q => hs₃.extBut _ _ c1 (up _ _ (hs₁.extBut _ _ c1 q))) ⟨oe, hs₃.extBut _ _ hez hoe, hce⟩

/-- the list's iterator has ended -/
theorem zip_end2 {z TI TO i1 i2 l : Addr} {x left step : Int} {k : Nat} {ys : Array Value} {a b : Value} {Q : PySem.Fin → Shared → Prop} (hh : A.handled = none) (D : ZA z TI TO i1 i2 l)
    (hz : IsZip s.heap z TI TO .none) (hTI : IsPair s.heap TI (.ref i1) (.ref i2)) (hTO : IsPair s.heap TO a b)
    (h1 : IsRangeIter s.heap i1 x left step) (hleft : 0 < left) (h2 : s.heap.IsListIter i2 l k) (hl : s.heap.IsList l ys) (hy : ys[k]? = none)
    (hE : ∀ h' e o', (∀ c o, c ≠ z → c ≠ TO → c ≠ i1 → c ≠ i2 → s.heap.get? c = some o → h'.get? c = some o) → h'.get? i2 = some o' → Ended o' → StopAt h' e → E (.ref e) { s with heap := h', toks := s.toks + 1 }) :
    wpAny (model prog w) A (Builtin.«zip.__next__» ⟨[.ref z], []⟩) Q E s := by
  show wpAny _ _ (field (.ref z) 2 >>= _) _ _ _
  refine wpAny_bind (wpAny_field hz rfl (x := .bool false) rfl ?_)
  show wpAny _ _ (field (.ref z) 3 >>= _) _ _ _
  refine wpAny_bind (wpAny_field hz rfl (x := .ref TI) rfl ?_)
  refine wpAny_bind (wpAny_seqItems hTI rfl ?_)
  show wpAny _ _ (Builtin.SmallTypes.ownedTupleIsFree (.ref z) >>= _) _ _ _
  refine wpAny_bind ?_
  unfold Builtin.SmallTypes.ownedTupleIsFree
  refine wpAny_bind (wpAny_field hz rfl (x := .none) rfl (wpAny_pure ?_))
  simp only [if_true]
  refine wpAny_bind (wpAny_rule ?_)
  refine wpAny_bind (wpAny_field hz rfl (x := .ref TO) rfl ?_)
  refine wpAny_bind (wpAny_setField_rec hz (by simp) fun h₁ hz₁ hs₁ => ?_)
  replace hz₁ : IsZip h₁ z TI TO .ellipsis := hz₁
  refine wpAny_bind ?_
  simp only [List.zipIdx_cons, List.zipIdx_nil, List.forIn_cons, List.forIn_nil]
  refine wpAny_bind (wpAny_bind (wpAny_onRaise ?_))
  show wpAny _ _ (Builtin.SmallTypes.nextOf (.ref i1) >>= _) _ _ _
  refine wpAny_bind (nextOf_range_item (show IsRangeIter h₁ i1 x left step from hs₁.extBut _ _ D.i1z h1) hleft fun h₂ h1₂ hs₂ => wpAny_pure ?_)
  have hTO₂ : IsPair h₂ TO a b := hs₂.extBut _ _ D.TOi1 (hs₁.extBut _ _ D.TOz hTO)
  refine wpAny_bind (wpAny_seqItems hTO₂ rfl ?_)
  refine wpAny_bind (wpAny_updateSeq_pair hTO₂ fun h₃ hTO₃ hs₃ => ?_)
  refine wpAny_bind (wpAny_letGo (wpAny_pure ?_))
  refine wpAny_bind (wpAny_bind (wpAny_onRaise ?_))
  show wpAny _ _ (Builtin.SmallTypes.nextOf (.ref i2) >>= _) _ _ _
  refine wpAny_bind (nextOf_list_end hh (((h2.extBut hs₁.extBut D.i2z).extBut hs₂.extBut D.i12.symm).extBut hs₃.extBut D.TOi2.symm)
    (((hl.extBut hs₁.extBut D.lz).extBut hs₂.extBut D.li1).extBut hs₃.extBut D.lTO) hy fun h₄ e o' hs₄ ho' hen he => ?_)
  obtain ⟨oe, hoe, hce⟩ := he
  have hz₄ : IsZip h₄ z TI TO .ellipsis := hs₄ _ _ D.i2z.symm (hs₃.extBut _ _ D.TOz.symm (hs₂.extBut _ _ D.i1z.symm hz₁))
  have hez : e ≠ z := fun q => by subst q; rw [hz₄] at hoe; cases hoe; simp at hce
  exact wpAny_setField_rec hz₄ (by simp) fun h₅ _ hs₅ => hE h₅ e o' (fun c o c1 c2 c3 c4 q => hs₅.extBut _ _ c1 (hs₄ _ _ c4 (hs₃.extBut _ _ c2 (hs₂.extBut _ _ c3 (hs₁.extBut _ _ c1 q))))) (hs₅.extBut _ _ D.i2z ho') hen ⟨oe, hs₅.extBut _ _ hez hoe, hce⟩

theorem next_of_zip {z TI TO : Addr} {Q : Option Value → Shared → Prop} (hz : IsZip s.heap z TI TO .none)
    (h : wpAny (model prog w) A.in1 (Builtin.«zip.__next__» ⟨[.ref z], []⟩) (fun fin s' => ∃ v, fin = .done (.ret v) ∧ Q (some v) s')
      (fun e s' => ∃ a, e = .ref a ∧ StopAt s'.heap a ∧ Q none s') s) : wpAny (model prog w) A (pyNext (.ref z)) Q E s := by
  have hT : s.TypeIs (.ref z) "zip" := ⟨_, hz, rfl⟩
  unfold pyNext
  refine wpAny_bind (wpAny_attempt (wpAny_callSpecial?_slot (name := Str.ofString "__next__") hT PySem.F.slot_zip_next
    (wpAny_call_entry PySem.F.slot_zip_next hT PySem.F.entry_zip_next (wpAny_mono h (fun fin s' hf => ?_) fun e s' he => ?_) (PySem.F.args_zip_next_1 _))))
  · obtain ⟨v, rfl, hq⟩ := hf
    exact ⟨v, rfl, wpAny_pure hq⟩
  · obtain ⟨a, rfl, ⟨o, ho, hc⟩, hq⟩ := he
    refine wpAny_bind (wpAny_isInstance (T := "StopIteration") (b := true) ⟨o, ho, hc⟩ isSubtype_stop ?_)
    exact wpAny_pure hq
end
end Mine
end

section
-- RulesJ
open PySem PySem.W PyProof.Rows PySem.Calls PySem.Spec PyProof.Rows.LCg
set_option Elab.async false
set_option maxRecDepth 100000
namespace Mine
noncomputable abbrev zO1 (h : Heap) (a n c : Int) : Heap := h.push (rIt a n c)
noncomputable abbrev zO2 (h : Heap) (a n c : Int) (i2 : Addr) : Heap := (zO1 h a n c).push { cls := .type "tuple", data := .seq #[.ref h.objs.size, .ref i2] }
noncomputable abbrev zO3 (h : Heap) (a n c : Int) (i2 : Addr) : Heap := (zO2 h a n c i2).push { cls := .type "tuple", data := .seq #[.none, .none] }
noncomputable abbrev zO4 (h : Heap) (a n c : Int) (i2 : Addr) : Heap := (zO3 h a n c i2).push { cls := .type "zip", data := .fields #[.none, .bool false, .bool false, .ref (zO1 h a n c).objs.size, .ref (zO2 h a n c i2).objs.size] }
theorem meets_zip_ri (r i2 l : Addr) (a b c : Int) (t u v : Tok) (k : Nat) (hsm : Builtin.Range.small a b c = true) :
    Meets (Builtin.«zip.__new__» ⟨[.type "zip", .ref r, .ref i2], []⟩) (fun _ R s => IsRange s.heap r a b c t u v ∧ s.heap.IsListIter i2 l k ∧
      R (.ok (.ret (.ref (zO3 s.heap a (Builtin.Range.rangeSize a b c) c i2).objs.size))) { s with heap := zO4 s.heap a (Builtin.Range.rangeSize a b c) c i2 }) :=
  .of_wp fun prog w A R s h => by
    obtain ⟨hp, g, d, tk, os⟩ := s; obtain ⟨hr, hi, h⟩ := h
    have hsub := sub_zip
    have hR : IsRange (Shared.heap ⟨hp, g, d, tk, os⟩) r a b c t u v := hr
    have hI : Heap.IsListIter (Shared.heap ⟨hp.push (rIt a (Builtin.Range.rangeSize a b c) c), g, d, tk, os⟩) i2 l k := hi.at fun o e => Heap.get?_push_of_some _ e
    wp_walk using wpAny_pyIter_range hR hsm, wpAny_pyIter_listiter hI
    exact ⟨_, rfl, h⟩
section
variable {prog : Program} {w : World} {A : Around} {E : Value → Shared → Prop} {s : Shared} {h₀ : Heap} {L : Addr} {m : Str → Option Value} {nw : List (Addr × Obj)}
noncomputable abbrev zObj (f0 : Value) (TI TO : Addr) : Obj := { cls := .type "zip", dict := none, data := .fields #[f0, .bool false, .bool false, .ref TI, .ref TO], slots := #[] }
noncomputable abbrev prObj (a b : Value) : Obj := { cls := .type "tuple", data := .seq #[a, b] }
theorem call_zip_ri {r i2 l : Addr} {a b c : Int} {t u v : Tok} {k : Nat} {o2 : Obj} {Q : Value → Shared → Prop} (hr : IsRange s.heap r a b c t u v) (hsm : Builtin.Range.small a b c = true)
    (F : Fr h₀ L s.heap m) (N : News h₀ L s.heap ((i2, o2) :: nw)) (ho : LIt o2 l k) 
    (h : ∀ h' z TI TO i1, Fr h₀ L h' m → News h₀ L h' ((z, zObj .none TI TO) :: (TI, prObj (.ref i1) (.ref i2)) :: (TO, prObj .none .none) :: (i1, rIt a (Builtin.Range.rangeSize a b c) c) :: (i2, o2) :: nw) → i1 < TI → TI < TO → TO < z → (∀ b o, s.heap.get? b = some o → b < i1) → Q (.ref z) { s with heap := h' }) :
    wpAny (model prog w) A (call (.type "zip") [.ref r, .ref i2]) Q E s := by
  have hi : s.heap.IsListIter i2 l k := ⟨o2, (N _ (.head _)).1, ho⟩
  refine callType_new PySem.F.called_zip (by decide) (PySem.F.typeCall_zip_2 _ _) (PySem.F.newCall_zip_2 _ _) (fun obj => PySem.F.args_object_init_3 obj _ _) PySem.F.entry_zip_new
    (meets_zip_ri r i2 l a b c t u v k hsm) ⟨hr, hi, ?_⟩
  have z1 : (zO1 s.heap a (Builtin.Range.rangeSize a b c) c).objs.size = s.heap.objs.size + 1 := Heap.size_push ..
  have z2 : (zO2 s.heap a (Builtin.Range.rangeSize a b c) c i2).objs.size = s.heap.objs.size + 2 := by rw [Heap.size_push, z1]
  have z3 : (zO3 s.heap a (Builtin.Range.rangeSize a b c) c i2).objs.size = s.heap.objs.size + 3 := by rw [Heap.size_push, z2]
  show _ ∧ _
  refine ⟨⟨_, Heap.get?_push_size _ rfl, rfl⟩, ?_⟩
  have F1 := F.push (rIt a (Builtin.Range.rangeSize a b c) c)
  have N1 := News.push F N (rIt a (Builtin.Range.rangeSize a b c) c)
  have F2 := F1.push (prObj (.ref s.heap.objs.size) (.ref i2))
  have N2 := News.push F1 N1 (prObj (.ref s.heap.objs.size) (.ref i2))
  have F3 := F2.push (prObj .none .none)
  have N3 := News.push F2 N2 (prObj .none .none)
  have F4 := F3.push (zObj .none (zO1 s.heap a (Builtin.Range.rangeSize a b c) c).objs.size (zO2 s.heap a (Builtin.Range.rangeSize a b c) c i2).objs.size)
  have N4 := News.push F3 N3 (zObj .none (zO1 s.heap a (Builtin.Range.rangeSize a b c) c).objs.size (zO2 s.heap a (Builtin.Range.rangeSize a b c) c i2).objs.size)
  refine h _ _ (zO1 s.heap a (Builtin.Range.rangeSize a b c) c).objs.size (zO2 s.heap a (Builtin.Range.rangeSize a b c) c i2).objs.size s.heap.objs.size F4 (news_sub N4 fun p hp => ?_) (by rw [z1]; exact Nat.lt_succ_self _) (by rw [z1, z2]; exact Nat.lt_succ_self _) (by rw [z2, z3]; exact Nat.lt_succ_self _) fun b o e => Heap.lt_size e
  simp only [List.mem_cons] at hp ⊢
  rcases hp with q | q | q | q | q | q <;> simp [q]
end
end Mine
end

section
-- RulesK
open PySem PySem.W PyProof.Rows PySem.Calls PySem.Spec PyProof.Rows.LCg
set_option Elab.async false
set_option maxRecDepth 100000
namespace Mine
section
variable {prog : Program} {w : World} {A : Around} {E : Value → Shared → Prop} {s : Shared} {h₀ : Heap} {L : Addr} {m : Str → Option Value} {env : Env}
theorem store_comp {scope : Scope} {cl : List (Str × Addr)} {C : Addr} {oC : Obj} {m₂ : Str → Option Value} {x : Str} {v : Value} {nw : List (Addr × Obj)} {Q : Unit → Shared → Prop} (hx : scope.names.lookup x = some .local) (hkind : scope.kind = .function)
    (F : Fr h₀ L s.heap m) (N : News h₀ L s.heap ((C, oC) :: nw)) (hoC : NsObj oC m₂) (off : ∀ p ∈ nw, p.1 ≠ C)
    (h : ∀ h' oC', Fr h₀ L h' m → News h₀ L h' ((C, oC') :: nw) → NsObj oC' (fun z => if z = x then some v else m₂ z) → Q () { s with heap := h', toks := s.toks + 1 }) :
    wpAny (model prog w) A (storeName (compEnvC scope cl C env) x v) Q E s := by
  have z := N _ (.head _)
  refine wpAny_storeName_local (lookup_relabel_local hx) (hoC.ns z.1) (fun h₃ hn₃ hs₃ => ?_) (by simp [compEnvC, relabel, hkind])
  obtain ⟨oC', heC, hoC'⟩ := ns_obj hn₃
  exact h h₃ oC' (F.change hs₃ z.2.1 z.2.2) (news_same N hs₃ off heC) hoC'

noncomputable def Zs (z TI TO i1 i2 : Addr) (a b : Value) (x left step : Int) (o2 : Obj) : List (Addr × Obj) :=
  [(z, zObj .none TI TO), (TI, prObj (.ref i1) (.ref i2)), (TO, prObj a b), (i1, rIt x left step), (i2, o2)]
noncomputable def OffZ (z TI TO i1 i2 : Addr) (l : List (Addr × Obj)) : Prop := ∀ p ∈ l, p.1 ≠ z ∧ p.1 ≠ TI ∧ p.1 ≠ TO ∧ p.1 ≠ i1 ∧ p.1 ≠ i2

inductive ZElt (h₀ : Heap) (L : Addr) (m : Str → Option Value) (s₂ : Shared) (nw : List (Addr × Obj)) (ys : List Value) (G : List (Addr × Obj)) (T : List Value → List (Addr × Obj) → Nat → Prop) (k : Nat) (y : Value) (s₅ : Shared) : Prop
  | mk (h' : Heap) (tk' : Nat) (a : Addr) (o : Obj) (a1 : s₅ = { s₂ with heap := h', toks := tk' }) (a2 : Fr h₀ L h' m) (a3 : News h₀ L h' ((a, o) :: nw)) (a4 : ∀ p ∈ nw, p.1 ≠ a) (a5 : T (ys ++ [y]) ((a, o) :: G) (k + 1)) : ZElt h₀ L m s₂ nw ys G T k y s₅
inductive ZpJ (N : Nat) (z TI TO i1 i2 l : Addr) (x0 N0 step : Int) (base : List (Addr × Obj)) (T : List Value → List (Addr × Obj) → Nat → Prop) (f : Nat) (ys : List Value) (nw : List (Addr × Obj)) : Prop
  | mk (k : Nat) (a b : Value) (o : Obj) (G : List (Addr × Obj)) (a1 : f = N + 1 - k) (a2 : k ≤ N) (a3 : (k : Int) ≤ max N0 0) (a4 : T ys G k) (a5 : LIt o l k) (a6 : nw = Zs z TI TO i1 i2 a b (x0 + k * step) (N0 - k) step o ++ (G ++ base)) (a7 : OffZ z TI TO i1 i2 (G ++ base)) : ZpJ N z TI TO i1 i2 l x0 N0 step base T f ys nw
theorem mem_split {α : Type} {x y p : α} {l1 l2 : List α} (h : p ∈ x :: y :: (l1 ++ l2)) : p ∈ x :: y :: l2 ∨ p ∈ l1 := by
  rcases List.mem_cons.mp h with rfl | h
  · exact .inl (.head _)
  rcases List.mem_cons.mp h with rfl | h
  · exact .inl (.tail _ (.head _))
  rcases List.mem_append.mp h with q | q
  · exact .inr q
  · exact .inl (.tail _ (.tail _ q))
theorem mem_third {α : Type} {x y z p : α} {l : List α} (h : p ∈ x :: y :: z :: l) : p ∈ x :: y :: l ∨ p = z := by
  rcases List.mem_cons.mp h with rfl | h
  · exact .inl (.head _)
  rcases List.mem_cons.mp h with rfl | h
  · exact .inl (.tail _ (.head _))
  rcases List.mem_cons.mp h with rfl | h
  · exact .inr rfl
  · exact .inl (.tail _ (.tail _ h))
theorem mem_out {α : Type} {x y a p : α} {l1 l2 l3 : List α} (h : p ∈ x :: y :: (l1 ++ ((a :: l2) ++ l3))) : p ∈ a :: x :: y :: (l1 ++ (l2 ++ l3)) := by
  rcases List.mem_cons.mp h with rfl | h
  · exact .tail _ (.head _)
  rcases List.mem_cons.mp h with rfl | h
  · exact .tail _ (.tail _ (.head _))
  rcases List.mem_append.mp h with q | q
  · exact .tail _ (.tail _ (.tail _ (List.mem_append_left _ q)))
  rcases List.mem_cons.mp q with rfl | q
  · exact .head _
  · exact .tail _ (.tail _ (.tail _ (List.mem_append_right _ q)))
section
variable {z TI TO i1 i2 : Addr} {a b : Value} {x left step : Int} {o2 : Obj}
theorem zs_z : (z, zObj .none TI TO) ∈ Zs z TI TO i1 i2 a b x left step o2 := .head _
theorem zs_TI : (TI, prObj (.ref i1) (.ref i2)) ∈ Zs z TI TO i1 i2 a b x left step o2 := .tail _ (.head _)
theorem zs_TO : (TO, prObj a b) ∈ Zs z TI TO i1 i2 a b x left step o2 := .tail _ (.tail _ (.head _))
theorem zs_1 : (i1, rIt x left step) ∈ Zs z TI TO i1 i2 a b x left step o2 := .tail _ (.tail _ (.tail _ (.head _)))
theorem zs_2 : (i2, o2) ∈ Zs z TI TO i1 i2 a b x left step o2 := .tail _ (.tail _ (.tail _ (.tail _ (.head _))))
theorem zs_all {P : Addr × Obj → Prop} (hz : P (z, zObj .none TI TO)) (hTI : P (TI, prObj (.ref i1) (.ref i2))) (hTO : P (TO, prObj a b)) (h1 : P (i1, rIt x left step)) (h2 : P (i2, o2)) : ∀ p ∈ Zs z TI TO i1 i2 a b x left step o2, P p := fun p q => by
  simp only [Zs, List.mem_cons, List.not_mem_nil, or_false] at q
  rcases q with rfl | rfl | rfl | rfl | rfl
  · exact hz
  · exact hTI
  · exact hTO
  · exact h1
  · exact h2
end
theorem zip_lcat {scope : Scope} {cl : List (Str × Addr)} {elt : Expr} {x1 x2 : Str} {px1 px2 tp : Pos} {kk : Nat} {s₂ : Shared} {z TI TO i1 i2 l : Addr} {x0 N0 step : Int} {o2 : Obj} {rs : List Value} {nl : Nat} {base : List (Addr × Obj)}
    {Fin : Shared → List Value → List (Addr × Obj) → Prop} (hh : A.handled = none) (hx1 : scope.names.lookup x1 = some .local) (hx2 : scope.names.lookup x2 = some .local) (hxx : x1 ≠ x2) (hkind : scope.kind = .function)
    (F : Fr h₀ L s₂.heap m) (N : News h₀ L s₂.heap (Zs z TI TO i1 i2 .none .none x0 N0 step o2 ++ base)) (ho2 : LIt o2 l 0) (hap : ZA z TI TO i1 i2 l) (hoff : OffZ z TI TO i1 i2 base)
    (hl : (l, listOf rs.toArray nl) ∈ base) (hz : rs.length < 900)
    (T : List Value → List (Addr × Obj) → Nat → Prop) (hT0 : T [] [] 0) (hTl : ∀ ys G k, T ys G k → ys.length = k)
    (helt : ∀ k ys G v C oC D m₂ h tk t nw, k < rs.length → (k : Int) < N0 → rs[k]? = some v → T ys G k → NsObj oC m₂ → m₂ x1 = some (.int (x0 + k * step) t) → m₂ x2 = some v → (∀ p ∈ G ++ base, p ∈ nw) → Fr h₀ L h m → News h₀ L h ((C, oC) :: (D, lst ys) :: nw) →
      wpAny (model prog w) A (eval elt (compEnvC scope cl C env)) (ZElt h₀ L m s₂ ((C, oC) :: (D, lst ys) :: nw) ys G T k) NoE { s₂ with heap := h, toks := tk })
    (fin : ∀ k ys G o2', T ys G k → k ≤ rs.length → ((LIt o2' l k ∧ N0 ≤ k) ∨ (Ended o2' ∧ k = rs.length ∧ (k : Int) < N0)) → ((k : Int) ≤ max N0 0) → (∀ p ∈ G ++ base, p.1 ≠ i2) → Fin s₂ ys ((i2, o2') :: (G ++ base))) :
    LcAt prog w A h₀ L m env (.Tuple [.Name x1 px1, .Name x2 px2] kk tp) [] elt scope cl Fin (.ref z) s₂ := by
  refine ⟨Zs z TI TO i1 i2 .none .none x0 N0 step o2 ++ base, ZpJ rs.length z TI TO i1 i2 l x0 N0 step base T, rs.length + 1, F, N,
    ⟨0, .none, .none, o2, [], rfl, Nat.zero_le _, by lia, hT0, ho2, by simp, hoff⟩, ?_, ?_, ?_⟩
  · rintro n ys nw ⟨k, a, b, o, G, -, hk, -, hT, -⟩
    rw [hTl _ _ _ hT]; lia
  · intro h tk Q' up hq
    exact wpAny_pyIter_zip (up _ _ (N _ (.head _)).1) hq
  · rintro n ys nw C oC D m₂ h tk ⟨k, a, b, o, G, rfl, hk, hkN, hT, ho, hnw, hoffG⟩ hoC F' N' hCD off'
    have inZ : ∀ p ∈ Zs z TI TO i1 i2 a b (x0 + k * step) (N0 - k) step o, p ∈ nw := fun p hp => hnw ▸ List.mem_append_left _ hp
    have inB : ∀ p ∈ G ++ base, p ∈ nw := fun p hp => hnw ▸ List.mem_append_right _ hp
    clear hnw
    have mz : (z, zObj .none TI TO) ∈ (C, oC) :: (D, lst ys) :: nw := .tail _ (.tail _ (inZ _ zs_z))
    have mTI : (TI, prObj (.ref i1) (.ref i2)) ∈ (C, oC) :: (D, lst ys) :: nw := .tail _ (.tail _ (inZ _ zs_TI))
    have mTO : (TO, prObj a b) ∈ (C, oC) :: (D, lst ys) :: nw := .tail _ (.tail _ (inZ _ zs_TO))
    have m1 : (i1, rIt (x0 + k * step) (N0 - k) step) ∈ (C, oC) :: (D, lst ys) :: nw := .tail _ (.tail _ (inZ _ zs_1))
    have m2 : (i2, o) ∈ (C, oC) :: (D, lst ys) :: nw := .tail _ (.tail _ (inZ _ zs_2))
    have mB : ∀ p ∈ G ++ base, p ∈ (C, oC) :: (D, lst ys) :: nw := fun p hp => .tail _ (.tail _ (inB p hp))
    have ml := mB _ (List.mem_append_right _ hl)
    have offZ : ∀ p ∈ Zs z TI TO i1 i2 a b (x0 + k * step) (N0 - k) step o, p.1 ≠ C ∧ p.1 ≠ D := fun p hp => off' p (inZ p hp)
    have Cz : z ≠ C ∧ z ≠ D := offZ _ zs_z
    have CTI : TI ≠ C ∧ TI ≠ D := offZ _ zs_TI
    have CTO : TO ≠ C ∧ TO ≠ D := offZ _ zs_TO
    have C1 : i1 ≠ C ∧ i1 ≠ D := offZ _ zs_1
    have C2 : i2 ≠ C ∧ i2 ≠ D := offZ _ zs_2
    have hlist : h.IsList l rs.toArray := PySem.IsL.isList (n := nl) (N' _ ml).1
    have hit : h.IsListIter i2 l k := ⟨o, (N' _ m2).1, ho⟩
    -- what stands apart from the zip's own
    have rest : ∀ p ∈ (C, oC) :: (D, lst ys) :: (G ++ base), p.1 ≠ z ∧ p.1 ≠ TI ∧ p.1 ≠ TO ∧ p.1 ≠ i1 ∧ p.1 ≠ i2 := fun p hp => by
      rcases List.mem_cons.mp hp with rfl | hp
      · exact ⟨Cz.1.symm, CTI.1.symm, CTO.1.symm, C1.1.symm, C2.1.symm⟩
      · rcases List.mem_cons.mp hp with rfl | hp
        · exact ⟨Cz.2.symm, CTI.2.symm, CTO.2.symm, C1.2.symm, C2.2.symm⟩
        · exact hoffG p hp
    have restN : ∀ p ∈ (C, oC) :: (D, lst ys) :: (G ++ base), p ∈ (C, oC) :: (D, lst ys) :: nw := fun p hp => by
      rcases List.mem_cons.mp hp with rfl | hp
      · exact .head _
      · rcases List.mem_cons.mp hp with rfl | hp
        · exact .tail _ (.head _)
        · exact mB p hp
    refine next_of_zip (N' _ mz).1 ?_
    by_cases hleft : 0 < N0 - k
    · by_cases hk' : k < rs.length
      · obtain ⟨v, hv⟩ : ∃ v, rs[k]? = some v := ⟨rs[k], by simp [hk']⟩
        refine zip_item hap (N' _ mz).1 (N' _ mTI).1 (N' _ mTO).1 (N' _ m1).1 hleft hit hlist (by simpa using hv) fun h' az aTO a1 a2 aT hsz keep => ?_
        have old : ∀ c, (∃ o, h.get? c = some o) → c ≠ h.objs.size := fun c ⟨o, e⟩ => Nat.ne_of_lt (Heap.lt_size e)
        have Fh' : Fr h₀ L h' m := ⟨F'.ns.at' fun o e => keep L o (N' _ mz).2.1.symm (N' _ mTO).2.1.symm (N' _ m1).2.1.symm (N' _ m2).2.1.symm e,
          fun b o e => keep b o (fun q => by rw [q, (N' _ mz).2.2] at e; cases e) (fun q => by rw [q, (N' _ mTO).2.2] at e; cases e) (fun q => by rw [q, (N' _ m1).2.2] at e; cases e) (fun q => by rw [q, (N' _ m2).2.2] at e; cases e) (F'.keep b o e), F'.above⟩
        refine wpAny_letOwnedTupleGo_zip az fun h₃ hz₃ hs₃ => ?_
        have Fh₃ : Fr h₀ L h₃ m := Fh'.change hs₃ (N' _ mz).2.1 (N' _ mz).2.2
        obtain ⟨o', e2', ho'⟩ := a2
        have tz : h.objs.size ≠ z := (old z ⟨_, (N' _ mz).1⟩).symm
        have N₃ : News h₀ L h₃ ((C, oC) :: (D, lst ys) :: (Zs z TI TO i1 i2 (.int (x0 + k * step) tk) v (x0 + k * step + step) (N0 - k - 1) step o' ++ (G ++ base))) := fun p hp => by
          rcases mem_split hp with q | q
          · have zz := N' p (restN p q)
            obtain ⟨r1, r2, r3, r4, r5⟩ := rest p q
            exact ⟨hs₃.extBut _ _ r1 (keep _ _ r1 r3 r4 r5 zz.1), zz.2⟩
          · exact zs_all (P := fun p => h₃.get? p.1 = some p.2 ∧ p.1 ≠ L ∧ h₀.get? p.1 = none) ⟨hz₃, (N' _ mz).2⟩ ⟨hs₃.extBut _ _ hap.TIz (keep _ _ hap.TIz hap.TITO hap.TIi1 hap.TIi2 (N' _ mTI).1), (N' _ mTI).2⟩ ⟨hs₃.extBut _ _ hap.TOz aTO, (N' _ mTO).2⟩ ⟨hs₃.extBut _ _ hap.i1z a1, (N' _ m1).2⟩ ⟨hs₃.extBut _ _ hap.i2z e2', (N' _ m2).2⟩ p q
        have hT₃ : IsTup h₃ h.objs.size #[.int (x0 + k * step) tk, v] := ⟨_, hs₃.extBut _ _ tz aT, rfl, _, rfl⟩
        refine unpackN_ Fh₃ N₃ hT₃ hh rfl rfl fun h₄ F₄ N₄ => ?_
        show wpAny _ _ (assignInOrder [fun v => assign (.Name x1 px1) (compEnvC scope cl C env) v, fun v => assign (.Name x2 px2) (compEnvC scope cl C env) v] [.int (x0 + k * step) tk, v]) _ _ _
        have offC : ∀ p ∈ (D, lst ys) :: (Zs z TI TO i1 i2 (.int (x0 + k * step) tk) v (x0 + k * step + step) (N0 - k - 1) step o' ++ (G ++ base)), p.1 ≠ C := fun p hp => by
          rcases List.mem_cons.mp hp with rfl | hp
          · exact hCD.symm
          · rcases List.mem_append.mp hp with q | q
            · exact zs_all (P := fun p => p.1 ≠ C) Cz.1 CTI.1 CTO.1 C1.1 C2.1 p q
            · exact (off' p (inB p q)).1
        refine assignInOrder_cons (wpAny_assign_Name (store_comp hx1 hkind F₄ N₄ hoC offC fun h₅ oC₅ F₅ N₅ hoC₅ => ?_))
        refine assignInOrder_cons (wpAny_assign_Name (store_comp hx2 hkind F₅ N₅ hoC₅ offC fun h₆ oC₆ F₆ N₆ hoC₆ => ?_))
        refine assignInOrder_nil (wpAny_tests_nil ?_)
        show LcIf _ _ _ _ _ _ _ _ _ _ _ _ _ _ true _
        unfold LcIf
        rw [if_pos rfl]
        refine wpAny_mono (helt k ys G v C oC₆ D _ h₆ _ tk _ hk' (by lia) hv hT hoC₆ (by rw [if_neg hxx, if_pos rfl]) (by rw [if_pos rfl]) (fun p hp => List.mem_append_right _ hp) F₆ N₆) (fun y s₅ h₅ => ?_) fun _ _ e => e
        obtain ⟨h₇, tk₇, a₇, o₇, rfl, F₇, N₇, off₇, T₇⟩ := h₅
        have off8 : ∀ p ∈ Zs z TI TO i1 i2 (.int (x0 + k * step) tk) v (x0 + k * step + step) (N0 - k - 1) step o' ++ (G ++ base), p.1 ≠ C ∧ p.1 ≠ D := fun p hp => by
          refine ⟨offC p (.tail _ hp), ?_⟩
          rcases List.mem_append.mp hp with q | q
          · exact zs_all (P := fun p => p.1 ≠ D) Cz.2 CTI.2 CTO.2 C1.2 C2.2 p q
          · exact (off' p (inB p q)).2
        have e1 : x0 + ((k + 1 : Nat) : Int) * step = x0 + k * step + step := by rw [Int.natCast_add, Int.add_mul]; simp; lia
        have e2 : N0 - ((k + 1 : Nat) : Int) = N0 - k - 1 := by lia
        refine ⟨h₇, tk₇, oC₆, _, Zs z TI TO i1 i2 (.int (x0 + k * step) tk) v (x0 + k * step + step) (N0 - k - 1) step o' ++ (((a₇, o₇) :: G) ++ base), rs.length + 1 - (k + 1), rfl, hoC₆, F₇, news_sub N₇ fun p hp => ?_, fun p hp => ?_, by lia,
          ⟨k + 1, _, _, o', (a₇, o₇) :: G, rfl, by lia, by lia, T₇, ho', by rw [e1, e2], fun p hp => ?_⟩⟩
        · exact mem_out hp
        · rcases List.mem_append.mp hp with q | q
          · exact off8 p (List.mem_append_left _ q)
          · rcases List.mem_cons.mp q with rfl | q
            · exact ⟨(off₇ (C, oC₆) (.head _)).symm, (off₇ (D, lst ys) (.tail _ (.head _))).symm⟩
            · exact off8 p (List.mem_append_right _ q)
        · rcases List.mem_cons.mp hp with rfl | q
          · have g : ∀ q ∈ Zs z TI TO i1 i2 (.int (x0 + k * step) tk) v (x0 + k * step + step) (N0 - k - 1) step o', q.1 ≠ a₇ := fun q hq => off₇ q (.tail _ (.tail _ (List.mem_append_left _ hq)))
            exact ⟨(g _ zs_z).symm, (g _ zs_TI).symm, (g _ zs_TO).symm, (g _ zs_1).symm, (g _ zs_2).symm⟩
          · exact hoffG p q
      · -- the list has ended
        have hke : k = rs.length := by lia
        refine zip_end2 hh hap (N' _ mz).1 (N' _ mTI).1 (N' _ mTO).1 (N' _ m1).1 hleft hit hlist (by simp; lia) fun h' e o' keep e2' hen st => ⟨e, rfl, st, ?_⟩
        have Fh' : Fr h₀ L h' m := ⟨F'.ns.at' fun o e => keep L o (N' _ mz).2.1.symm (N' _ mTO).2.1.symm (N' _ m1).2.1.symm (N' _ m2).2.1.symm e,
          fun b o e => keep b o (fun q => by rw [q, (N' _ mz).2.2] at e; cases e) (fun q => by rw [q, (N' _ mTO).2.2] at e; cases e) (fun q => by rw [q, (N' _ m1).2.2] at e; cases e) (fun q => by rw [q, (N' _ m2).2.2] at e; cases e) (F'.keep b o e), F'.above⟩
        refine ⟨h', _, (i2, o') :: (G ++ base), rfl, Fh', fun p hp => ?_, fun p hp => ?_, fin k ys G o' hT hk (.inr ⟨hen, hke, by lia⟩) hkN fun p hp => (hoffG p hp).2.2.2.2⟩
        · rcases mem_third hp with q | rfl
          · have zz := N' p (restN p q)
            obtain ⟨r1, r2, r3, r4, r5⟩ := rest p q
            exact ⟨keep _ _ r1 r3 r4 r5 zz.1, zz.2⟩
          · exact ⟨e2', (N' _ m2).2⟩
        · rcases List.mem_cons.mp hp with rfl | q
          · exact C2
          · exact off' p (inB p q)
    · -- the range has ended
      refine zip_end1 hh hap (N' _ mz).1 (N' _ mTI).1 (N' _ mTO).1 (N' _ m1).1 (by lia) fun h' e keep st => ⟨e, rfl, st, ?_⟩
      have Fh' : Fr h₀ L h' m := ⟨F'.ns.at' fun o e => keep L o (N' _ mz).2.1.symm e, fun b o e => keep b o (fun q => by rw [q, (N' _ mz).2.2] at e; cases e) (F'.keep b o e), F'.above⟩
      refine ⟨h', _, (i2, o) :: (G ++ base), rfl, Fh', fun p hp => ?_, fun p hp => ?_, fin k ys G o hT hk (.inl ⟨ho, by lia⟩) hkN fun p hp => (hoffG p hp).2.2.2.2⟩
      · rcases mem_third hp with q | rfl
        · have zz := N' p (restN p q)
          exact ⟨keep _ _ (rest p q).1 zz.1, zz.2⟩
        · exact ⟨keep _ _ hap.i2z (N' _ m2).1, (N' _ m2).2⟩
      · rcases List.mem_cons.mp hp with rfl | q
        · exact C2
        · exact off' p (inB p q)
end
end Mine
end

section
-- PureS
open PySem PySem.W PyProof.Rows
set_option Elab.async false
namespace Mine
theorem cl1 {a b n m : Nat} (hab : a < b) (hb : b < n) : m + n - 1 - b < m + n - 1 - a := Nat.sub_lt_sub_left (Nat.lt_of_lt_of_le hab (Nat.le_sub_one_of_lt (Nat.lt_of_lt_of_le hb (Nat.le_add_left n m)))) hab
theorem rv1 {a b n : Nat} (hab : a < b) (hb : b < n) : 0 + n - 1 - b < 0 + n - 1 - a := cl1 hab hb
theorem rv2 {a n : Nat} (ha : a < n) : 0 + n - 1 - a < n := by rw [Nat.zero_add, Nat.sub_sub]; exact Nat.sub_lt (Nat.zero_lt_of_lt ha) (Nat.add_pos_left Nat.one_pos a)
theorem cl3 {x n m : Nat} (hx : x < n) : m ≤ m + n - 1 - x := Nat.le_sub_of_add_le (Nat.le_sub_one_of_lt (Nat.add_lt_add_left hx m))
theorem cl2 {x n m : Nat} (h : m ≤ x) (hx : x < n) : m + n - 1 - x < n :=
  Nat.sub_lt_left_of_lt_add (Nat.le_trans (Nat.le_sub_one_of_lt hx) (Nat.sub_le_sub_right (Nat.le_add_left n m) 1)) (Nat.lt_of_lt_of_le (Nat.sub_one_lt (Nat.ne_of_gt (Nat.add_pos_right m (Nat.zero_lt_of_lt hx)))) (Nat.add_le_add_right h n))
theorem md3 {l r : Nat} (c : ¬ l ≥ r) : (l + r) / 2 < r := Nat.div_lt_of_lt_mul (by rw [Nat.two_mul]; exact Nat.add_lt_add_right (Nat.lt_of_not_le c) r)
theorem md5 {l r : Nat} (c : ¬ l ≥ r) : l ≤ (l + r) / 2 := (Nat.le_div_iff_mul_le Nat.two_pos).mpr (by rw [Nat.mul_two]; exact Nat.add_le_add_left (Nat.le_of_lt (Nat.lt_of_not_le c)) l)
theorem md1 {l r f : Nat} (hf : r - l ≤ f + 1) (c : ¬ l ≥ r) : (l + r) / 2 - l ≤ f := Nat.le_of_lt_succ (Nat.lt_of_lt_of_le (Nat.sub_lt_sub_right (md5 c) (md3 c)) hf)
theorem md2 {l r f : Nat} (hf : r - l ≤ f + 1) (c : ¬ l ≥ r) : r - ((l + r) / 2 + 1) ≤ f := Nat.le_of_lt_succ (Nat.lt_of_lt_of_le (Nat.sub_lt_sub_left (Nat.lt_of_not_le c) (Nat.lt_succ_of_le (md5 c))) hf)
theorem md4 {l r k : Nat} (c : ¬ l ≥ r) (h : r ≤ k) : (l + r) / 2 < k := Nat.lt_of_lt_of_le (md3 c) h
/-- a run of the questions' tree by an order of one's own; every question asks of places below N -/
noncomputable def Runs {α : Type} (lt : Nat → Nat → Bool) (N : Nat) : KasT α → (α → Prop) → Prop
  | .ret a, P => P a
  | .ask i j k, P => i < N ∧ j < N ∧ Runs lt N (k (lt i j)) P
theorem Runs.bind {α β : Type} {lt : Nat → Nat → Bool} {N : Nat} {f : α → KasT β} {P : β → Prop} : ∀ {t : KasT α}, Runs lt N t (fun a => Runs lt N (f a) P) → Runs lt N (t.bind f) P
  | .ret _, h => h
  | .ask _ _ _, h => ⟨h.1, h.2.1, Runs.bind h.2.2⟩
theorem Runs.mono {α : Type} {lt : Nat → Nat → Bool} {N : Nat} {P P' : α → Prop} (hp : ∀ a, P a → P' a) : ∀ {t : KasT α}, Runs lt N t P → Runs lt N t P'
  | .ret _, h => hp _ h
  | .ask _ _ _, h => ⟨h.1, h.2.1, Runs.mono hp h.2.2⟩
theorem Runs.wp {α : Type} {lt : Nat → Nat → Bool} {N : Nat} {cmp : Nat → Nat → (Bool → Shared → Prop) → Shared → Prop} {I : Shared → Prop} {P : α → Prop} {Q : α → Shared → Prop}
    (hc : ∀ i j C s, i < N → j < N → I s → (∀ s', I s' → C (lt i j) s') → cmp i j C s) (hq : ∀ a s, P a → I s → Q a s) : ∀ {t : KasT α} {s : Shared}, Runs lt N t P → I s → t.kasWp cmp Q s
  | .ret a, s, h, hi => hq a s h hi
  | .ask i j k, s, h, hi => hc i j _ s h.1 h.2.1 hi fun s' hi' => Runs.wp hc hq h.2.2 hi'

section
variable {lt : Nat → Nat → Bool} {N : Nat}
/-- the stable order -/
noncomputable def bef (lt : Nat → Nat → Bool) (i j : Nat) : Prop := lt i j = true ∨ (lt j i = false ∧ i < j)
structure SWO (lt : Nat → Nat → Bool) : Prop where
  irr : ∀ a, lt a a = false
  tr : ∀ a b c, lt a b = true → lt b c = true → lt a c = true
  nt : ∀ a b c, lt a c = true → lt a b = true ∨ lt b c = true
theorem SWO.asym (h : SWO lt) {a b : Nat} (x : lt a b = true) : lt b a = false := by
  cases q : lt b a with
  | false => rfl
  | true => have := h.tr _ _ _ x q; rw [h.irr] at this; cases this
theorem SWO.le_tr (h : SWO lt) {a b c : Nat} (x : lt b a = false) (y : lt c b = false) : lt c a = false := by
  cases q : lt c a with
  | false => rfl
  | true =>
    rcases h.nt c b a q with z | z
    · rw [y] at z; cases z
    · rw [x] at z; cases z
theorem SWO.lt_le (h : SWO lt) {a b c : Nat} (x : lt a b = true) (y : lt c b = false) : lt a c = true := by
  rcases h.nt a c b x with z | z
  · exact z
  · rw [y] at z; cases z
theorem SWO.le_lt (h : SWO lt) {a b c : Nat} (x : lt b a = false) (y : lt b c = true) : lt a c = true := by
  rcases h.nt b a c y with z | z
  · rw [x] at z; cases z
  · exact z
theorem bef_tr (h : SWO lt) {a b c : Nat} (x : bef lt a b) (y : bef lt b c) : bef lt a c := by
  rcases x with x | ⟨x, x'⟩ <;> rcases y with y | ⟨y, y'⟩
  · exact .inl (h.tr _ _ _ x y)
  · exact .inl (h.lt_le x y)
  · exact .inl (h.le_lt x y)
  · exact .inr ⟨h.le_tr x y, by lia⟩

/-- the array's places -/
noncomputable abbrev at' (p : Array Nat) (k : Nat) : Nat := p.getD k 0
theorem pat_get {p : Array Nat} {k : Nat} (h : k < p.size) : p[k]? = some (at' p k) := by simp [at', Array.getD, h]
theorem at_rev {p : Array Nat} {i j k : Nat} (hj : j ≤ p.size) (hk : k < p.size) : at' (kas_rev p i j) k = if i ≤ k ∧ k < j then at' p (i + j - 1 - k) else at' p k := by
  have e := getElem?_mirror_all (xs := p) (i := i) hj k
  have hk' : k < (kas_rev p i j).size := by rw [show (kas_rev p i j).size = p.size from mirror_size _ _ _ _]; exact hk
  have e2 : (kas_rev p i j)[k]? = some (at' (kas_rev p i j) k) := pat_get hk'
  unfold kas_rev at e2 ⊢
  rw [e] at e2
  by_cases c : i ≤ k ∧ k < j
  · rw [if_pos c] at e2 ⊢
    rw [pat_get (by first | assumption | exact Nat.lt_trans (by assumption) (by assumption) | exact Nat.lt_of_lt_of_le (by assumption) (by assumption) | exact Nat.le_of_lt (by assumption) | exact Nat.lt_of_le_of_lt (by assumption) (by assumption) | exact rv1 (by assumption) (by assumption) | exact rv2 (by assumption) | exact cl1 (by assumption) (by assumption) | exact cl2 (by assumption) (by assumption) | exact cl3 (by assumption) | exact md1 (by assumption) (by assumption) | exact md2 (by assumption) (by assumption) | exact md3 (by assumption) | exact md4 (by assumption) (by assumption) | exact md5 (by assumption) | exact Nat.lt_succ_of_lt (by assumption) | exact Nat.lt_of_succ_lt (by assumption) | exact Nat.lt_succ_self _ | lia)] at e2
    exact (Option.some.inj e2).symm
  · rw [if_neg c] at e2 ⊢
    rw [pat_get hk] at e2
    exact (Option.some.inj e2).symm
theorem at_bub {p : Array Nat} {src d k : Nat} (hs : src < p.size) (hd : d ≤ src) (hk : k < p.size) : at' (bubble p src d) k = if k = src - d then at' p src else if src - d < k ∧ k ≤ src then at' p (k - 1) else at' p k := by
  have e := getElem?_bubble hs d hd k
  have hk' : k < (bubble p src d).size := by rw [bubble_size]; exact hk
  have e2 := pat_get hk'
  rw [e] at e2
  by_cases c : k = src - d
  · rw [if_pos c] at e2 ⊢
    rw [pat_get hs] at e2
    exact (Option.some.inj e2).symm
  · rw [if_neg c] at e2 ⊢
    by_cases c2 : src - d < k ∧ k ≤ src
    · rw [if_pos c2] at e2 ⊢
      rw [pat_get (by first | assumption | exact Nat.lt_trans (by assumption) (by assumption) | exact Nat.lt_of_lt_of_le (by assumption) (by assumption) | exact Nat.le_of_lt (by assumption) | exact Nat.lt_of_le_of_lt (by assumption) (by assumption) | exact rv1 (by assumption) (by assumption) | exact rv2 (by assumption) | exact cl1 (by assumption) (by assumption) | exact cl2 (by assumption) (by assumption) | exact cl3 (by assumption) | exact md1 (by assumption) (by assumption) | exact md2 (by assumption) (by assumption) | exact md3 (by assumption) | exact md4 (by assumption) (by assumption) | exact md5 (by assumption) | exact Nat.lt_succ_of_lt (by assumption) | exact Nat.lt_of_succ_lt (by assumption) | exact Nat.lt_succ_self _ | lia)] at e2
      exact (Option.some.inj e2).symm
    · rw [if_neg c2] at e2 ⊢
      rw [pat_get hk] at e2
      exact (Option.some.inj e2).symm

/-- the first n places are in the stable order; behind them nothing is moved -/
structure St (lt : Nat → Nat → Bool) (N : Nat) (p : Array Nat) (n : Nat) : Prop where
  sz : p.size = N
  perm : p.Perm (List.range N).toArray
  low : ∀ k, k < n → at' p k < n
  tail : ∀ k, n ≤ k → k < N → at' p k = k
  ord : ∀ a b, a < b → b < n → bef lt (at' p a) (at' p b)
theorem St.lt' {p : Array Nat} {n : Nat} (h : St lt N p n) (hn : n ≤ N) {k : Nat} (hk : k < N) : at' p k < N := by
  by_cases c : k < n
  · exact Nat.lt_of_lt_of_le (h.low k c) hn
  · rw [h.tail k (by first | assumption | exact Nat.lt_trans (by assumption) (by assumption) | exact Nat.lt_of_lt_of_le (by assumption) (by assumption) | exact Nat.le_of_lt (by assumption) | exact Nat.lt_of_le_of_lt (by assumption) (by assumption) | exact rv1 (by assumption) (by assumption) | exact rv2 (by assumption) | exact cl1 (by assumption) (by assumption) | exact cl2 (by assumption) (by assumption) | exact cl3 (by assumption) | exact md1 (by assumption) (by assumption) | exact md2 (by assumption) (by assumption) | exact md3 (by assumption) | exact md4 (by assumption) (by assumption) | exact md5 (by assumption) | exact Nat.lt_succ_of_lt (by assumption) | exact Nat.lt_of_succ_lt (by assumption) | exact Nat.lt_succ_self _ | lia) hk]; exact hk

theorem asc_runs (W : SWO lt) : ∀ (f n : Nat) (p : Array Nat), St lt N p n → 1 ≤ n → n + f = N → Runs lt N (kas_asc p f n) (fun m => St lt N p m ∧ n ≤ m ∧ m ≤ N ∧ (m < N → lt (at' p m) (at' p (m - 1)) = true)) := by
  intro f
  induction f with
  | zero => intro n p h h1 hf; exact ⟨h, Nat.le_refl _, by lia, by lia⟩
  | succ f ih =>
    intro n p h h1 hf
    refine ⟨h.lt' (by first | assumption | exact Nat.lt_trans (by assumption) (by assumption) | exact Nat.lt_of_lt_of_le (by assumption) (by assumption) | exact Nat.le_of_lt (by assumption) | exact Nat.lt_of_le_of_lt (by assumption) (by assumption) | exact rv1 (by assumption) (by assumption) | exact rv2 (by assumption) | exact cl1 (by assumption) (by assumption) | exact cl2 (by assumption) (by assumption) | exact cl3 (by assumption) | exact md1 (by assumption) (by assumption) | exact md2 (by assumption) (by assumption) | exact md3 (by assumption) | exact md4 (by assumption) (by assumption) | exact md5 (by assumption) | exact Nat.lt_succ_of_lt (by assumption) | exact Nat.lt_of_succ_lt (by assumption) | exact Nat.lt_succ_self _ | lia) (by first | assumption | exact Nat.lt_trans (by assumption) (by assumption) | exact Nat.lt_of_lt_of_le (by assumption) (by assumption) | exact Nat.le_of_lt (by assumption) | exact Nat.lt_of_le_of_lt (by assumption) (by assumption) | exact rv1 (by assumption) (by assumption) | exact rv2 (by assumption) | exact cl1 (by assumption) (by assumption) | exact cl2 (by assumption) (by assumption) | exact cl3 (by assumption) | exact md1 (by assumption) (by assumption) | exact md2 (by assumption) (by assumption) | exact md3 (by assumption) | exact md4 (by assumption) (by assumption) | exact md5 (by assumption) | exact Nat.lt_succ_of_lt (by assumption) | exact Nat.lt_of_succ_lt (by assumption) | exact Nat.lt_succ_self _ | lia), h.lt' (by first | assumption | exact Nat.lt_trans (by assumption) (by assumption) | exact Nat.lt_of_lt_of_le (by assumption) (by assumption) | exact Nat.le_of_lt (by assumption) | exact Nat.lt_of_le_of_lt (by assumption) (by assumption) | exact rv1 (by assumption) (by assumption) | exact rv2 (by assumption) | exact cl1 (by assumption) (by assumption) | exact cl2 (by assumption) (by assumption) | exact cl3 (by assumption) | exact md1 (by assumption) (by assumption) | exact md2 (by assumption) (by assumption) | exact md3 (by assumption) | exact md4 (by assumption) (by assumption) | exact md5 (by assumption) | exact Nat.lt_succ_of_lt (by assumption) | exact Nat.lt_of_succ_lt (by assumption) | exact Nat.lt_succ_self _ | lia) (by first | assumption | exact Nat.lt_trans (by assumption) (by assumption) | exact Nat.lt_of_lt_of_le (by assumption) (by assumption) | exact Nat.le_of_lt (by assumption) | exact Nat.lt_of_le_of_lt (by assumption) (by assumption) | exact rv1 (by assumption) (by assumption) | exact rv2 (by assumption) | exact cl1 (by assumption) (by assumption) | exact cl2 (by assumption) (by assumption) | exact cl3 (by assumption) | exact md1 (by assumption) (by assumption) | exact md2 (by assumption) (by assumption) | exact md3 (by assumption) | exact md4 (by assumption) (by assumption) | exact md5 (by assumption) | exact Nat.lt_succ_of_lt (by assumption) | exact Nat.lt_of_succ_lt (by assumption) | exact Nat.lt_succ_self _ | lia), ?_⟩
    cases c : lt (at' p n) (at' p (n - 1)) with
    | true =>
      show Runs lt N (if true = true then .ret n else kas_asc p f (n + 1)) _
      rw [if_pos rfl]
      exact ⟨h, Nat.le_refl _, by lia, fun _ => c⟩
    | false =>
      show Runs lt N (if false = true then .ret n else kas_asc p f (n + 1)) _
      rw [if_neg (by simp)]
      have hn : at' p n = n := h.tail n (Nat.le_refl _) (by first | assumption | exact Nat.lt_trans (by assumption) (by assumption) | exact Nat.lt_of_lt_of_le (by assumption) (by assumption) | exact Nat.le_of_lt (by assumption) | exact Nat.lt_of_le_of_lt (by assumption) (by assumption) | exact rv1 (by assumption) (by assumption) | exact rv2 (by assumption) | exact cl1 (by assumption) (by assumption) | exact cl2 (by assumption) (by assumption) | exact cl3 (by assumption) | exact md1 (by assumption) (by assumption) | exact md2 (by assumption) (by assumption) | exact md3 (by assumption) | exact md4 (by assumption) (by assumption) | exact md5 (by assumption) | exact Nat.lt_succ_of_lt (by assumption) | exact Nat.lt_of_succ_lt (by assumption) | exact Nat.lt_succ_self _ | lia)
      have h' : St lt N p (n + 1) := ⟨h.sz, h.perm, fun k hk => by
          by_cases q : k < n
          · exact Nat.lt_succ_of_lt (h.low k q)
          · have : k = n := by lia
            subst this; rw [hn]; lia, fun k hk hk' => h.tail k (by first | assumption | exact Nat.lt_trans (by assumption) (by assumption) | exact Nat.lt_of_lt_of_le (by assumption) (by assumption) | exact Nat.le_of_lt (by assumption) | exact Nat.lt_of_le_of_lt (by assumption) (by assumption) | exact rv1 (by assumption) (by assumption) | exact rv2 (by assumption) | exact cl1 (by assumption) (by assumption) | exact cl2 (by assumption) (by assumption) | exact cl3 (by assumption) | exact md1 (by assumption) (by assumption) | exact md2 (by assumption) (by assumption) | exact md3 (by assumption) | exact md4 (by assumption) (by assumption) | exact md5 (by assumption) | exact Nat.lt_succ_of_lt (by assumption) | exact Nat.lt_of_succ_lt (by assumption) | exact Nat.lt_succ_self _ | lia) hk', fun a b hab hb => by
          by_cases q : b < n
          · exact h.ord a b hab q
          · have e : b = n := by lia
            subst e
            have last : bef lt (at' p (b - 1)) (at' p b) := .inr ⟨c, by have := h.low (b - 1) (by first | assumption | exact Nat.lt_trans (by assumption) (by assumption) | exact Nat.lt_of_lt_of_le (by assumption) (by assumption) | exact Nat.le_of_lt (by assumption) | exact Nat.lt_of_le_of_lt (by assumption) (by assumption) | exact rv1 (by assumption) (by assumption) | exact rv2 (by assumption) | exact cl1 (by assumption) (by assumption) | exact cl2 (by assumption) (by assumption) | exact cl3 (by assumption) | exact md1 (by assumption) (by assumption) | exact md2 (by assumption) (by assumption) | exact md3 (by assumption) | exact md4 (by assumption) (by assumption) | exact md5 (by assumption) | exact Nat.lt_succ_of_lt (by assumption) | exact Nat.lt_of_succ_lt (by assumption) | exact Nat.lt_succ_self _ | lia); lia⟩
            by_cases q2 : a = b - 1
            · subst q2; exact last
            · exact bef_tr W (h.ord a (b - 1) (by first | assumption | exact Nat.lt_trans (by assumption) (by assumption) | exact Nat.lt_of_lt_of_le (by assumption) (by assumption) | exact Nat.le_of_lt (by assumption) | exact Nat.lt_of_le_of_lt (by assumption) (by assumption) | exact rv1 (by assumption) (by assumption) | exact rv2 (by assumption) | exact cl1 (by assumption) (by assumption) | exact cl2 (by assumption) (by assumption) | exact cl3 (by assumption) | exact md1 (by assumption) (by assumption) | exact md2 (by assumption) (by assumption) | exact md3 (by assumption) | exact md4 (by assumption) (by assumption) | exact md5 (by assumption) | exact Nat.lt_succ_of_lt (by assumption) | exact Nat.lt_of_succ_lt (by assumption) | exact Nat.lt_succ_self _ | lia) (by first | assumption | exact Nat.lt_trans (by assumption) (by assumption) | exact Nat.lt_of_lt_of_le (by assumption) (by assumption) | exact Nat.le_of_lt (by assumption) | exact Nat.lt_of_le_of_lt (by assumption) (by assumption) | exact rv1 (by assumption) (by assumption) | exact rv2 (by assumption) | exact cl1 (by assumption) (by assumption) | exact cl2 (by assumption) (by assumption) | exact cl3 (by assumption) | exact md1 (by assumption) (by assumption) | exact md2 (by assumption) (by assumption) | exact md3 (by assumption) | exact md4 (by assumption) (by assumption) | exact md5 (by assumption) | exact Nat.lt_succ_of_lt (by assumption) | exact Nat.lt_of_succ_lt (by assumption) | exact Nat.lt_succ_self _ | lia)) last⟩
      exact Runs.mono (fun m hm => ⟨hm.1, by lia, hm.2.2.1, hm.2.2.2⟩) (ih (n + 1) p h' (by first | assumption | exact Nat.lt_trans (by assumption) (by assumption) | exact Nat.lt_of_lt_of_le (by assumption) (by assumption) | exact Nat.le_of_lt (by assumption) | exact Nat.lt_of_le_of_lt (by assumption) (by assumption) | exact rv1 (by assumption) (by assumption) | exact rv2 (by assumption) | exact cl1 (by assumption) (by assumption) | exact cl2 (by assumption) (by assumption) | exact cl3 (by assumption) | exact md1 (by assumption) (by assumption) | exact md2 (by assumption) (by assumption) | exact md3 (by assumption) | exact md4 (by assumption) (by assumption) | exact md5 (by assumption) | exact Nat.lt_succ_of_lt (by assumption) | exact Nat.lt_of_succ_lt (by assumption) | exact Nat.lt_succ_self _ | lia) (by first | assumption | exact Nat.lt_trans (by assumption) (by assumption) | exact Nat.lt_of_lt_of_le (by assumption) (by assumption) | exact Nat.le_of_lt (by assumption) | exact Nat.lt_of_le_of_lt (by assumption) (by assumption) | exact rv1 (by assumption) (by assumption) | exact rv2 (by assumption) | exact cl1 (by assumption) (by assumption) | exact cl2 (by assumption) (by assumption) | exact cl3 (by assumption) | exact md1 (by assumption) (by assumption) | exact md2 (by assumption) (by assumption) | exact md3 (by assumption) | exact md4 (by assumption) (by assumption) | exact md5 (by assumption) | exact Nat.lt_succ_of_lt (by assumption) | exact Nat.lt_of_succ_lt (by assumption) | exact Nat.lt_succ_self _ | lia))

structure DSt (lt : Nat → Nat → Bool) (N : Nat) (p : Array Nat) (n q : Nat) : Prop where
  sz : p.size = N
  perm : p.Perm (List.range N).toArray
  low : ∀ k, k < n → at' p k < n
  tail : ∀ k, n ≤ k → k < N → at' p k = k
  q1 : q + 1 ≤ n
  dec : ∀ a b, a < b → b < n - (q + 1) → bef lt (at' p b) (at' p a)
  gap : ∀ a b, a < n - (q + 1) → n - (q + 1) ≤ b → b < n → lt (at' p b) (at' p a) = true
  grpo : ∀ a b, n - (q + 1) ≤ a → a < b → b < n → at' p a < at' p b
  grpe : ∀ a b, n - (q + 1) ≤ a → a < n → n - (q + 1) ≤ b → b < n → lt (at' p a) (at' p b) = false
theorem DSt.lt' {p : Array Nat} {n q : Nat} (h : DSt lt N p n q) (hn : n ≤ N) {k : Nat} (hk : k < N) : at' p k < N := by
  by_cases c : k < n
  · exact Nat.lt_of_lt_of_le (h.low k c) hn
  · rw [h.tail k (by first | assumption | exact Nat.lt_trans (by assumption) (by assumption) | exact Nat.lt_of_lt_of_le (by assumption) (by assumption) | exact Nat.le_of_lt (by assumption) | exact Nat.lt_of_le_of_lt (by assumption) (by assumption) | exact rv1 (by assumption) (by assumption) | exact rv2 (by assumption) | exact cl1 (by assumption) (by assumption) | exact cl2 (by assumption) (by assumption) | exact cl3 (by assumption) | exact md1 (by assumption) (by assumption) | exact md2 (by assumption) (by assumption) | exact md3 (by assumption) | exact md4 (by assumption) (by assumption) | exact md5 (by assumption) | exact Nat.lt_succ_of_lt (by assumption) | exact Nat.lt_of_succ_lt (by assumption) | exact Nat.lt_succ_self _ | lia) hk]; exact hk
/-- all n places fall -/
structure Dec (lt : Nat → Nat → Bool) (N : Nat) (p : Array Nat) (n : Nat) : Prop where
  sz : p.size = N
  perm : p.Perm (List.range N).toArray
  low : ∀ k, k < n → at' p k < n
  tail : ∀ k, n ≤ k → k < N → at' p k = k
  dec : ∀ a b, a < b → b < n → bef lt (at' p b) (at' p a)
noncomputable def closed (p : Array Nat) (n q : Nat) : Array Nat := if q > 0 then kas_rev p (n - (q + 1)) n else p
theorem rev_perm (p : Array Nat) (i j : Nat) : (kas_rev p i j).Perm p := mirror_perm _ _ _ _
theorem rev_size (p : Array Nat) (i j : Nat) : (kas_rev p i j).size = p.size := mirror_size _ _ _ _
theorem at_closed {p : Array Nat} {n q k : Nat} (h : DSt lt N p n q) (hn : n ≤ N) (hk : k < N) : at' (closed p n q) k = if n - (q + 1) ≤ k ∧ k < n then at' p (n - (q + 1) + n - 1 - k) else at' p k := by
  unfold closed
  by_cases c : q > 0
  · rw [if_pos c, at_rev (by rw [h.sz]; exact hn) (by rw [h.sz]; exact hk)]
  · rw [if_neg c]
    have hq : q = 0 := by lia
    subst hq
    by_cases d : n - (0 + 1) ≤ k ∧ k < n
    · rw [if_pos d]
      have := h.q1
      congr 1; lia
    · rw [if_neg d]
theorem closed_dec {p : Array Nat} {n q : Nat} (h : DSt lt N p n q) (hn : n ≤ N) : Dec lt N (closed p n q) n := by
  have q1 := h.q1
  have hsz : (closed p n q).size = N := by
    unfold closed; split
    · rw [rev_size, h.sz]
    · exact h.sz
  have hpm : (closed p n q).Perm (List.range N).toArray := by
    unfold closed; split
    · exact (rev_perm _ _ _).trans h.perm
    · exact h.perm
  refine ⟨hsz, hpm, fun k hk => ?_, fun k hk hk' => ?_, fun a b hab hb => ?_⟩
  · rw [at_closed h hn (by first | assumption | exact Nat.lt_trans (by assumption) (by assumption) | exact Nat.lt_of_lt_of_le (by assumption) (by assumption) | exact Nat.le_of_lt (by assumption) | exact Nat.lt_of_le_of_lt (by assumption) (by assumption) | exact rv1 (by assumption) (by assumption) | exact rv2 (by assumption) | exact cl1 (by assumption) (by assumption) | exact cl2 (by assumption) (by assumption) | exact cl3 (by assumption) | exact md1 (by assumption) (by assumption) | exact md2 (by assumption) (by assumption) | exact md3 (by assumption) | exact md4 (by assumption) (by assumption) | exact md5 (by assumption) | exact Nat.lt_succ_of_lt (by assumption) | exact Nat.lt_of_succ_lt (by assumption) | exact Nat.lt_succ_self _ | lia)]
    split
    · exact h.low _ (by first | assumption | exact Nat.lt_trans (by assumption) (by assumption) | exact Nat.lt_of_lt_of_le (by assumption) (by assumption) | exact Nat.le_of_lt (by assumption) | exact Nat.lt_of_le_of_lt (by assumption) (by assumption) | exact rv1 (by assumption) (by assumption) | exact rv2 (by assumption) | exact cl1 (by assumption) (by assumption) | exact cl2 (by assumption) (by assumption) | exact cl3 (by assumption) | exact md1 (by assumption) (by assumption) | exact md2 (by assumption) (by assumption) | exact md3 (by assumption) | exact md4 (by assumption) (by assumption) | exact md5 (by assumption) | exact Nat.lt_succ_of_lt (by assumption) | exact Nat.lt_of_succ_lt (by assumption) | exact Nat.lt_succ_self _ | lia)
    · exact h.low _ hk
  · rw [at_closed h hn hk', if_neg (by first | assumption | exact Nat.lt_trans (by assumption) (by assumption) | exact Nat.lt_of_lt_of_le (by assumption) (by assumption) | exact Nat.le_of_lt (by assumption) | exact Nat.lt_of_le_of_lt (by assumption) (by assumption) | exact rv1 (by assumption) (by assumption) | exact rv2 (by assumption) | exact cl1 (by assumption) (by assumption) | exact cl2 (by assumption) (by assumption) | exact cl3 (by assumption) | exact md1 (by assumption) (by assumption) | exact md2 (by assumption) (by assumption) | exact md3 (by assumption) | exact md4 (by assumption) (by assumption) | exact md5 (by assumption) | exact Nat.lt_succ_of_lt (by assumption) | exact Nat.lt_of_succ_lt (by assumption) | exact Nat.lt_succ_self _ | lia)]
    exact h.tail k hk hk'
  · rw [at_closed h hn (by first | assumption | exact Nat.lt_trans (by assumption) (by assumption) | exact Nat.lt_of_lt_of_le (by assumption) (by assumption) | exact Nat.le_of_lt (by assumption) | exact Nat.lt_of_le_of_lt (by assumption) (by assumption) | exact rv1 (by assumption) (by assumption) | exact rv2 (by assumption) | exact cl1 (by assumption) (by assumption) | exact cl2 (by assumption) (by assumption) | exact cl3 (by assumption) | exact md1 (by assumption) (by assumption) | exact md2 (by assumption) (by assumption) | exact md3 (by assumption) | exact md4 (by assumption) (by assumption) | exact md5 (by assumption) | exact Nat.lt_succ_of_lt (by assumption) | exact Nat.lt_of_succ_lt (by assumption) | exact Nat.lt_succ_self _ | lia), at_closed h hn (by first | assumption | exact Nat.lt_trans (by assumption) (by assumption) | exact Nat.lt_of_lt_of_le (by assumption) (by assumption) | exact Nat.le_of_lt (by assumption) | exact Nat.lt_of_le_of_lt (by assumption) (by assumption) | exact rv1 (by assumption) (by assumption) | exact rv2 (by assumption) | exact cl1 (by assumption) (by assumption) | exact cl2 (by assumption) (by assumption) | exact cl3 (by assumption) | exact md1 (by assumption) (by assumption) | exact md2 (by assumption) (by assumption) | exact md3 (by assumption) | exact md4 (by assumption) (by assumption) | exact md5 (by assumption) | exact Nat.lt_succ_of_lt (by assumption) | exact Nat.lt_of_succ_lt (by assumption) | exact Nat.lt_succ_self _ | lia)]
    by_cases c1 : n - (q + 1) ≤ a
    · rw [if_pos ⟨by lia, hb⟩, if_pos ⟨c1, by lia⟩]
      exact .inr ⟨h.grpe _ _ (by first | assumption | exact Nat.lt_trans (by assumption) (by assumption) | exact Nat.lt_of_lt_of_le (by assumption) (by assumption) | exact Nat.le_of_lt (by assumption) | exact Nat.lt_of_le_of_lt (by assumption) (by assumption) | exact rv1 (by assumption) (by assumption) | exact rv2 (by assumption) | exact cl1 (by assumption) (by assumption) | exact cl2 (by assumption) (by assumption) | exact cl3 (by assumption) | exact md1 (by assumption) (by assumption) | exact md2 (by assumption) (by assumption) | exact md3 (by assumption) | exact md4 (by assumption) (by assumption) | exact md5 (by assumption) | exact Nat.lt_succ_of_lt (by assumption) | exact Nat.lt_of_succ_lt (by assumption) | exact Nat.lt_succ_self _ | lia) (by first | assumption | exact Nat.lt_trans (by assumption) (by assumption) | exact Nat.lt_of_lt_of_le (by assumption) (by assumption) | exact Nat.le_of_lt (by assumption) | exact Nat.lt_of_le_of_lt (by assumption) (by assumption) | exact rv1 (by assumption) (by assumption) | exact rv2 (by assumption) | exact cl1 (by assumption) (by assumption) | exact cl2 (by assumption) (by assumption) | exact cl3 (by assumption) | exact md1 (by assumption) (by assumption) | exact md2 (by assumption) (by assumption) | exact md3 (by assumption) | exact md4 (by assumption) (by assumption) | exact md5 (by assumption) | exact Nat.lt_succ_of_lt (by assumption) | exact Nat.lt_of_succ_lt (by assumption) | exact Nat.lt_succ_self _ | lia) (by first | assumption | exact Nat.lt_trans (by assumption) (by assumption) | exact Nat.lt_of_lt_of_le (by assumption) (by assumption) | exact Nat.le_of_lt (by assumption) | exact Nat.lt_of_le_of_lt (by assumption) (by assumption) | exact rv1 (by assumption) (by assumption) | exact rv2 (by assumption) | exact cl1 (by assumption) (by assumption) | exact cl2 (by assumption) (by assumption) | exact cl3 (by assumption) | exact md1 (by assumption) (by assumption) | exact md2 (by assumption) (by assumption) | exact md3 (by assumption) | exact md4 (by assumption) (by assumption) | exact md5 (by assumption) | exact Nat.lt_succ_of_lt (by assumption) | exact Nat.lt_of_succ_lt (by assumption) | exact Nat.lt_succ_self _ | lia) (by first | assumption | exact Nat.lt_trans (by assumption) (by assumption) | exact Nat.lt_of_lt_of_le (by assumption) (by assumption) | exact Nat.le_of_lt (by assumption) | exact Nat.lt_of_le_of_lt (by assumption) (by assumption) | exact rv1 (by assumption) (by assumption) | exact rv2 (by assumption) | exact cl1 (by assumption) (by assumption) | exact cl2 (by assumption) (by assumption) | exact cl3 (by assumption) | exact md1 (by assumption) (by assumption) | exact md2 (by assumption) (by assumption) | exact md3 (by assumption) | exact md4 (by assumption) (by assumption) | exact md5 (by assumption) | exact Nat.lt_succ_of_lt (by assumption) | exact Nat.lt_of_succ_lt (by assumption) | exact Nat.lt_succ_self _ | lia), h.grpo _ _ (by first | assumption | exact Nat.lt_trans (by assumption) (by assumption) | exact Nat.lt_of_lt_of_le (by assumption) (by assumption) | exact Nat.le_of_lt (by assumption) | exact Nat.lt_of_le_of_lt (by assumption) (by assumption) | exact rv1 (by assumption) (by assumption) | exact rv2 (by assumption) | exact cl1 (by assumption) (by assumption) | exact cl2 (by assumption) (by assumption) | exact cl3 (by assumption) | exact md1 (by assumption) (by assumption) | exact md2 (by assumption) (by assumption) | exact md3 (by assumption) | exact md4 (by assumption) (by assumption) | exact md5 (by assumption) | exact Nat.lt_succ_of_lt (by assumption) | exact Nat.lt_of_succ_lt (by assumption) | exact Nat.lt_succ_self _ | lia) (by first | assumption | exact Nat.lt_trans (by assumption) (by assumption) | exact Nat.lt_of_lt_of_le (by assumption) (by assumption) | exact Nat.le_of_lt (by assumption) | exact Nat.lt_of_le_of_lt (by assumption) (by assumption) | exact rv1 (by assumption) (by assumption) | exact rv2 (by assumption) | exact cl1 (by assumption) (by assumption) | exact cl2 (by assumption) (by assumption) | exact cl3 (by assumption) | exact md1 (by assumption) (by assumption) | exact md2 (by assumption) (by assumption) | exact md3 (by assumption) | exact md4 (by assumption) (by assumption) | exact md5 (by assumption) | exact Nat.lt_succ_of_lt (by assumption) | exact Nat.lt_of_succ_lt (by assumption) | exact Nat.lt_succ_self _ | lia) (by first | assumption | exact Nat.lt_trans (by assumption) (by assumption) | exact Nat.lt_of_lt_of_le (by assumption) (by assumption) | exact Nat.le_of_lt (by assumption) | exact Nat.lt_of_le_of_lt (by assumption) (by assumption) | exact rv1 (by assumption) (by assumption) | exact rv2 (by assumption) | exact cl1 (by assumption) (by assumption) | exact cl2 (by assumption) (by assumption) | exact cl3 (by assumption) | exact md1 (by assumption) (by assumption) | exact md2 (by assumption) (by assumption) | exact md3 (by assumption) | exact md4 (by assumption) (by assumption) | exact md5 (by assumption) | exact Nat.lt_succ_of_lt (by assumption) | exact Nat.lt_of_succ_lt (by assumption) | exact Nat.lt_succ_self _ | lia)⟩
    · rw [if_neg (show ¬ (n - (q + 1) ≤ a ∧ a < n) by lia)]
      by_cases c2 : n - (q + 1) ≤ b
      · rw [if_pos ⟨c2, hb⟩]
        exact .inl (h.gap _ _ (by first | assumption | exact Nat.lt_trans (by assumption) (by assumption) | exact Nat.lt_of_lt_of_le (by assumption) (by assumption) | exact Nat.le_of_lt (by assumption) | exact Nat.lt_of_le_of_lt (by assumption) (by assumption) | exact rv1 (by assumption) (by assumption) | exact rv2 (by assumption) | exact cl1 (by assumption) (by assumption) | exact cl2 (by assumption) (by assumption) | exact cl3 (by assumption) | exact md1 (by assumption) (by assumption) | exact md2 (by assumption) (by assumption) | exact md3 (by assumption) | exact md4 (by assumption) (by assumption) | exact md5 (by assumption) | exact Nat.lt_succ_of_lt (by assumption) | exact Nat.lt_of_succ_lt (by assumption) | exact Nat.lt_succ_self _ | lia) (by first | assumption | exact Nat.lt_trans (by assumption) (by assumption) | exact Nat.lt_of_lt_of_le (by assumption) (by assumption) | exact Nat.le_of_lt (by assumption) | exact Nat.lt_of_le_of_lt (by assumption) (by assumption) | exact rv1 (by assumption) (by assumption) | exact rv2 (by assumption) | exact cl1 (by assumption) (by assumption) | exact cl2 (by assumption) (by assumption) | exact cl3 (by assumption) | exact md1 (by assumption) (by assumption) | exact md2 (by assumption) (by assumption) | exact md3 (by assumption) | exact md4 (by assumption) (by assumption) | exact md5 (by assumption) | exact Nat.lt_succ_of_lt (by assumption) | exact Nat.lt_of_succ_lt (by assumption) | exact Nat.lt_succ_self _ | lia) (by first | assumption | exact Nat.lt_trans (by assumption) (by assumption) | exact Nat.lt_of_lt_of_le (by assumption) (by assumption) | exact Nat.le_of_lt (by assumption) | exact Nat.lt_of_le_of_lt (by assumption) (by assumption) | exact rv1 (by assumption) (by assumption) | exact rv2 (by assumption) | exact cl1 (by assumption) (by assumption) | exact cl2 (by assumption) (by assumption) | exact cl3 (by assumption) | exact md1 (by assumption) (by assumption) | exact md2 (by assumption) (by assumption) | exact md3 (by assumption) | exact md4 (by assumption) (by assumption) | exact md5 (by assumption) | exact Nat.lt_succ_of_lt (by assumption) | exact Nat.lt_of_succ_lt (by assumption) | exact Nat.lt_succ_self _ | lia))
      · rw [if_neg (by first | assumption | exact Nat.lt_trans (by assumption) (by assumption) | exact Nat.lt_of_lt_of_le (by assumption) (by assumption) | exact Nat.le_of_lt (by assumption) | exact Nat.lt_of_le_of_lt (by assumption) (by assumption) | exact rv1 (by assumption) (by assumption) | exact rv2 (by assumption) | exact cl1 (by assumption) (by assumption) | exact cl2 (by assumption) (by assumption) | exact cl3 (by assumption) | exact md1 (by assumption) (by assumption) | exact md2 (by assumption) (by assumption) | exact md3 (by assumption) | exact md4 (by assumption) (by assumption) | exact md5 (by assumption) | exact Nat.lt_succ_of_lt (by assumption) | exact Nat.lt_of_succ_lt (by assumption) | exact Nat.lt_succ_self _ | lia)]
        exact h.dec a b hab (by first | assumption | exact Nat.lt_trans (by assumption) (by assumption) | exact Nat.lt_of_lt_of_le (by assumption) (by assumption) | exact Nat.le_of_lt (by assumption) | exact Nat.lt_of_le_of_lt (by assumption) (by assumption) | exact rv1 (by assumption) (by assumption) | exact rv2 (by assumption) | exact cl1 (by assumption) (by assumption) | exact cl2 (by assumption) (by assumption) | exact cl3 (by assumption) | exact md1 (by assumption) (by assumption) | exact md2 (by assumption) (by assumption) | exact md3 (by assumption) | exact md4 (by assumption) (by assumption) | exact md5 (by assumption) | exact Nat.lt_succ_of_lt (by assumption) | exact Nat.lt_of_succ_lt (by assumption) | exact Nat.lt_succ_self _ | lia)
theorem Dec.next {p : Array Nat} {n : Nat} (h : Dec lt N p n) (hn : n < N) (W : SWO lt) (hg : ∀ a, a < n → lt n (at' p a) = true) : DSt lt N p (n + 1) 0 := by
  have e : at' p n = n := h.tail n (Nat.le_refl _) hn
  refine ⟨h.sz, h.perm, fun k hk => ?_, fun k hk hk' => h.tail k (by first | assumption | exact Nat.lt_trans (by assumption) (by assumption) | exact Nat.lt_of_lt_of_le (by assumption) (by assumption) | exact Nat.le_of_lt (by assumption) | exact Nat.lt_of_le_of_lt (by assumption) (by assumption) | exact rv1 (by assumption) (by assumption) | exact rv2 (by assumption) | exact cl1 (by assumption) (by assumption) | exact cl2 (by assumption) (by assumption) | exact cl3 (by assumption) | exact md1 (by assumption) (by assumption) | exact md2 (by assumption) (by assumption) | exact md3 (by assumption) | exact md4 (by assumption) (by assumption) | exact md5 (by assumption) | exact Nat.lt_succ_of_lt (by assumption) | exact Nat.lt_of_succ_lt (by assumption) | exact Nat.lt_succ_self _ | lia) hk', by lia, fun a b hab hb => h.dec a b hab (by first | assumption | exact Nat.lt_trans (by assumption) (by assumption) | exact Nat.lt_of_lt_of_le (by assumption) (by assumption) | exact Nat.le_of_lt (by assumption) | exact Nat.lt_of_le_of_lt (by assumption) (by assumption) | exact rv1 (by assumption) (by assumption) | exact rv2 (by assumption) | exact cl1 (by assumption) (by assumption) | exact cl2 (by assumption) (by assumption) | exact cl3 (by assumption) | exact md1 (by assumption) (by assumption) | exact md2 (by assumption) (by assumption) | exact md3 (by assumption) | exact md4 (by assumption) (by assumption) | exact md5 (by assumption) | exact Nat.lt_succ_of_lt (by assumption) | exact Nat.lt_of_succ_lt (by assumption) | exact Nat.lt_succ_self _ | lia), fun a b ha hb hb' => ?_, fun a b ha hab hb => by lia, fun a b ha ha' hb hb' => ?_⟩
  · by_cases c : k < n
    · exact Nat.lt_succ_of_lt (h.low k c)
    · have : k = n := by lia
      subst this; rw [e]; lia
  · have : b = n := by lia
    subst this; rw [e]; exact hg a (by first | assumption | exact Nat.lt_trans (by assumption) (by assumption) | exact Nat.lt_of_lt_of_le (by assumption) (by assumption) | exact Nat.le_of_lt (by assumption) | exact Nat.lt_of_le_of_lt (by assumption) (by assumption) | exact rv1 (by assumption) (by assumption) | exact rv2 (by assumption) | exact cl1 (by assumption) (by assumption) | exact cl2 (by assumption) (by assumption) | exact cl3 (by assumption) | exact md1 (by assumption) (by assumption) | exact md2 (by assumption) (by assumption) | exact md3 (by assumption) | exact md4 (by assumption) (by assumption) | exact md5 (by assumption) | exact Nat.lt_succ_of_lt (by assumption) | exact Nat.lt_of_succ_lt (by assumption) | exact Nat.lt_succ_self _ | lia)
  · have h1 : a = n := by lia
    have h2 : b = n := by lia
    subst h1; subst h2; exact W.irr _
theorem desc_runs (W : SWO lt) : ∀ (f : Nat) (p : Array Nat) (n q : Nat), DSt lt N p n q → n + f = N → Runs lt N (kas_desc f p n q) (fun r => DSt lt N r.1 r.2.1 r.2.2 ∧ n ≤ r.2.1 ∧ r.2.1 ≤ N) := by
  intro f
  induction f with
  | zero => intro p n q h hf; exact ⟨h, Nat.le_refl _, (by lia : n ≤ N)⟩
  | succ f ih =>
    intro p n q h hf
    have q1 := h.q1
    have en : at' p n = n := h.tail n (Nat.le_refl _) (by first | assumption | exact Nat.lt_trans (by assumption) (by assumption) | exact Nat.lt_of_lt_of_le (by assumption) (by assumption) | exact Nat.le_of_lt (by assumption) | exact Nat.lt_of_le_of_lt (by assumption) (by assumption) | exact rv1 (by assumption) (by assumption) | exact rv2 (by assumption) | exact cl1 (by assumption) (by assumption) | exact cl2 (by assumption) (by assumption) | exact cl3 (by assumption) | exact md1 (by assumption) (by assumption) | exact md2 (by assumption) (by assumption) | exact md3 (by assumption) | exact md4 (by assumption) (by assumption) | exact md5 (by assumption) | exact Nat.lt_succ_of_lt (by assumption) | exact Nat.lt_of_succ_lt (by assumption) | exact Nat.lt_succ_self _ | lia)
    refine ⟨h.lt' (by first | assumption | exact Nat.lt_trans (by assumption) (by assumption) | exact Nat.lt_of_lt_of_le (by assumption) (by assumption) | exact Nat.le_of_lt (by assumption) | exact Nat.lt_of_le_of_lt (by assumption) (by assumption) | exact rv1 (by assumption) (by assumption) | exact rv2 (by assumption) | exact cl1 (by assumption) (by assumption) | exact cl2 (by assumption) (by assumption) | exact cl3 (by assumption) | exact md1 (by assumption) (by assumption) | exact md2 (by assumption) (by assumption) | exact md3 (by assumption) | exact md4 (by assumption) (by assumption) | exact md5 (by assumption) | exact Nat.lt_succ_of_lt (by assumption) | exact Nat.lt_of_succ_lt (by assumption) | exact Nat.lt_succ_self _ | lia) (by first | assumption | exact Nat.lt_trans (by assumption) (by assumption) | exact Nat.lt_of_lt_of_le (by assumption) (by assumption) | exact Nat.le_of_lt (by assumption) | exact Nat.lt_of_le_of_lt (by assumption) (by assumption) | exact rv1 (by assumption) (by assumption) | exact rv2 (by assumption) | exact cl1 (by assumption) (by assumption) | exact cl2 (by assumption) (by assumption) | exact cl3 (by assumption) | exact md1 (by assumption) (by assumption) | exact md2 (by assumption) (by assumption) | exact md3 (by assumption) | exact md4 (by assumption) (by assumption) | exact md5 (by assumption) | exact Nat.lt_succ_of_lt (by assumption) | exact Nat.lt_of_succ_lt (by assumption) | exact Nat.lt_succ_self _ | lia), h.lt' (by first | assumption | exact Nat.lt_trans (by assumption) (by assumption) | exact Nat.lt_of_lt_of_le (by assumption) (by assumption) | exact Nat.le_of_lt (by assumption) | exact Nat.lt_of_le_of_lt (by assumption) (by assumption) | exact rv1 (by assumption) (by assumption) | exact rv2 (by assumption) | exact cl1 (by assumption) (by assumption) | exact cl2 (by assumption) (by assumption) | exact cl3 (by assumption) | exact md1 (by assumption) (by assumption) | exact md2 (by assumption) (by assumption) | exact md3 (by assumption) | exact md4 (by assumption) (by assumption) | exact md5 (by assumption) | exact Nat.lt_succ_of_lt (by assumption) | exact Nat.lt_of_succ_lt (by assumption) | exact Nat.lt_succ_self _ | lia) (by first | assumption | exact Nat.lt_trans (by assumption) (by assumption) | exact Nat.lt_of_lt_of_le (by assumption) (by assumption) | exact Nat.le_of_lt (by assumption) | exact Nat.lt_of_le_of_lt (by assumption) (by assumption) | exact rv1 (by assumption) (by assumption) | exact rv2 (by assumption) | exact cl1 (by assumption) (by assumption) | exact cl2 (by assumption) (by assumption) | exact cl3 (by assumption) | exact md1 (by assumption) (by assumption) | exact md2 (by assumption) (by assumption) | exact md3 (by assumption) | exact md4 (by assumption) (by assumption) | exact md5 (by assumption) | exact Nat.lt_succ_of_lt (by assumption) | exact Nat.lt_of_succ_lt (by assumption) | exact Nat.lt_succ_self _ | lia), ?_⟩
    cases c : lt (at' p n) (at' p (n - 1)) with
    | true =>
      show Runs lt N (if true = true then (if q > 0 then kas_desc f (kas_rev p (n - (q + 1)) n) (n + 1) 0 else kas_desc f p (n + 1) 0) else _) _
      rw [if_pos rfl]
      have hall : ∀ a, a < n → lt n (at' p a) = true := fun a ha => by
        rw [en] at c
        by_cases g : n - (q + 1) ≤ a
        · exact W.lt_le c (h.grpe _ _ g ha (by first | assumption | exact Nat.lt_trans (by assumption) (by assumption) | exact Nat.lt_of_lt_of_le (by assumption) (by assumption) | exact Nat.le_of_lt (by assumption) | exact Nat.lt_of_le_of_lt (by assumption) (by assumption) | exact rv1 (by assumption) (by assumption) | exact rv2 (by assumption) | exact cl1 (by assumption) (by assumption) | exact cl2 (by assumption) (by assumption) | exact cl3 (by assumption) | exact md1 (by assumption) (by assumption) | exact md2 (by assumption) (by assumption) | exact md3 (by assumption) | exact md4 (by assumption) (by assumption) | exact md5 (by assumption) | exact Nat.lt_succ_of_lt (by assumption) | exact Nat.lt_of_succ_lt (by assumption) | exact Nat.lt_succ_self _ | lia) (by first | assumption | exact Nat.lt_trans (by assumption) (by assumption) | exact Nat.lt_of_lt_of_le (by assumption) (by assumption) | exact Nat.le_of_lt (by assumption) | exact Nat.lt_of_le_of_lt (by assumption) (by assumption) | exact rv1 (by assumption) (by assumption) | exact rv2 (by assumption) | exact cl1 (by assumption) (by assumption) | exact cl2 (by assumption) (by assumption) | exact cl3 (by assumption) | exact md1 (by assumption) (by assumption) | exact md2 (by assumption) (by assumption) | exact md3 (by assumption) | exact md4 (by assumption) (by assumption) | exact md5 (by assumption) | exact Nat.lt_succ_of_lt (by assumption) | exact Nat.lt_of_succ_lt (by assumption) | exact Nat.lt_succ_self _ | lia))
        · exact W.tr _ _ _ c (h.gap a (n - 1) (by first | assumption | exact Nat.lt_trans (by assumption) (by assumption) | exact Nat.lt_of_lt_of_le (by assumption) (by assumption) | exact Nat.le_of_lt (by assumption) | exact Nat.lt_of_le_of_lt (by assumption) (by assumption) | exact rv1 (by assumption) (by assumption) | exact rv2 (by assumption) | exact cl1 (by assumption) (by assumption) | exact cl2 (by assumption) (by assumption) | exact cl3 (by assumption) | exact md1 (by assumption) (by assumption) | exact md2 (by assumption) (by assumption) | exact md3 (by assumption) | exact md4 (by assumption) (by assumption) | exact md5 (by assumption) | exact Nat.lt_succ_of_lt (by assumption) | exact Nat.lt_of_succ_lt (by assumption) | exact Nat.lt_succ_self _ | lia) (by first | assumption | exact Nat.lt_trans (by assumption) (by assumption) | exact Nat.lt_of_lt_of_le (by assumption) (by assumption) | exact Nat.le_of_lt (by assumption) | exact Nat.lt_of_le_of_lt (by assumption) (by assumption) | exact rv1 (by assumption) (by assumption) | exact rv2 (by assumption) | exact cl1 (by assumption) (by assumption) | exact cl2 (by assumption) (by assumption) | exact cl3 (by assumption) | exact md1 (by assumption) (by assumption) | exact md2 (by assumption) (by assumption) | exact md3 (by assumption) | exact md4 (by assumption) (by assumption) | exact md5 (by assumption) | exact Nat.lt_succ_of_lt (by assumption) | exact Nat.lt_of_succ_lt (by assumption) | exact Nat.lt_succ_self _ | lia) (by first | assumption | exact Nat.lt_trans (by assumption) (by assumption) | exact Nat.lt_of_lt_of_le (by assumption) (by assumption) | exact Nat.le_of_lt (by assumption) | exact Nat.lt_of_le_of_lt (by assumption) (by assumption) | exact rv1 (by assumption) (by assumption) | exact rv2 (by assumption) | exact cl1 (by assumption) (by assumption) | exact cl2 (by assumption) (by assumption) | exact cl3 (by assumption) | exact md1 (by assumption) (by assumption) | exact md2 (by assumption) (by assumption) | exact md3 (by assumption) | exact md4 (by assumption) (by assumption) | exact md5 (by assumption) | exact Nat.lt_succ_of_lt (by assumption) | exact Nat.lt_of_succ_lt (by assumption) | exact Nat.lt_succ_self _ | lia))
      have hd := closed_dec h (by first | assumption | exact Nat.lt_trans (by assumption) (by assumption) | exact Nat.lt_of_lt_of_le (by assumption) (by assumption) | exact Nat.le_of_lt (by assumption) | exact Nat.lt_of_le_of_lt (by assumption) (by assumption) | exact rv1 (by assumption) (by assumption) | exact rv2 (by assumption) | exact cl1 (by assumption) (by assumption) | exact cl2 (by assumption) (by assumption) | exact cl3 (by assumption) | exact md1 (by assumption) (by assumption) | exact md2 (by assumption) (by assumption) | exact md3 (by assumption) | exact md4 (by assumption) (by assumption) | exact md5 (by assumption) | exact Nat.lt_succ_of_lt (by assumption) | exact Nat.lt_of_succ_lt (by assumption) | exact Nat.lt_succ_self _ | lia)
      have hall' : ∀ a, a < n → lt n (at' (closed p n q) a) = true := fun a ha => by
        rw [at_closed h (by first | assumption | exact Nat.lt_trans (by assumption) (by assumption) | exact Nat.lt_of_lt_of_le (by assumption) (by assumption) | exact Nat.le_of_lt (by assumption) | exact Nat.lt_of_le_of_lt (by assumption) (by assumption) | exact rv1 (by assumption) (by assumption) | exact rv2 (by assumption) | exact cl1 (by assumption) (by assumption) | exact cl2 (by assumption) (by assumption) | exact cl3 (by assumption) | exact md1 (by assumption) (by assumption) | exact md2 (by assumption) (by assumption) | exact md3 (by assumption) | exact md4 (by assumption) (by assumption) | exact md5 (by assumption) | exact Nat.lt_succ_of_lt (by assumption) | exact Nat.lt_of_succ_lt (by assumption) | exact Nat.lt_succ_self _ | lia) (by first | assumption | exact Nat.lt_trans (by assumption) (by assumption) | exact Nat.lt_of_lt_of_le (by assumption) (by assumption) | exact Nat.le_of_lt (by assumption) | exact Nat.lt_of_le_of_lt (by assumption) (by assumption) | exact rv1 (by assumption) (by assumption) | exact rv2 (by assumption) | exact cl1 (by assumption) (by assumption) | exact cl2 (by assumption) (by assumption) | exact cl3 (by assumption) | exact md1 (by assumption) (by assumption) | exact md2 (by assumption) (by assumption) | exact md3 (by assumption) | exact md4 (by assumption) (by assumption) | exact md5 (by assumption) | exact Nat.lt_succ_of_lt (by assumption) | exact Nat.lt_of_succ_lt (by assumption) | exact Nat.lt_succ_self _ | lia)]
        split
        · exact hall _ (by first | assumption | exact Nat.lt_trans (by assumption) (by assumption) | exact Nat.lt_of_lt_of_le (by assumption) (by assumption) | exact Nat.le_of_lt (by assumption) | exact Nat.lt_of_le_of_lt (by assumption) (by assumption) | exact rv1 (by assumption) (by assumption) | exact rv2 (by assumption) | exact cl1 (by assumption) (by assumption) | exact cl2 (by assumption) (by assumption) | exact cl3 (by assumption) | exact md1 (by assumption) (by assumption) | exact md2 (by assumption) (by assumption) | exact md3 (by assumption) | exact md4 (by assumption) (by assumption) | exact md5 (by assumption) | exact Nat.lt_succ_of_lt (by assumption) | exact Nat.lt_of_succ_lt (by assumption) | exact Nat.lt_succ_self _ | lia)
        · exact hall a ha
      have nx := hd.next (by first | assumption | exact Nat.lt_trans (by assumption) (by assumption) | exact Nat.lt_of_lt_of_le (by assumption) (by assumption) | exact Nat.le_of_lt (by assumption) | exact Nat.lt_of_le_of_lt (by assumption) (by assumption) | exact rv1 (by assumption) (by assumption) | exact rv2 (by assumption) | exact cl1 (by assumption) (by assumption) | exact cl2 (by assumption) (by assumption) | exact cl3 (by assumption) | exact md1 (by assumption) (by assumption) | exact md2 (by assumption) (by assumption) | exact md3 (by assumption) | exact md4 (by assumption) (by assumption) | exact md5 (by assumption) | exact Nat.lt_succ_of_lt (by assumption) | exact Nat.lt_of_succ_lt (by assumption) | exact Nat.lt_succ_self _ | lia) W hall'
      have go := Runs.mono (P' := fun r : Array Nat × Nat × Nat => DSt lt N r.1 r.2.1 r.2.2 ∧ n ≤ r.2.1 ∧ r.2.1 ≤ N) (fun r hr => ⟨hr.1, Nat.le_of_succ_le hr.2.1, hr.2.2⟩) (ih (closed p n q) (n + 1) 0 nx (by first | assumption | exact Nat.lt_trans (by assumption) (by assumption) | exact Nat.lt_of_lt_of_le (by assumption) (by assumption) | exact Nat.le_of_lt (by assumption) | exact Nat.lt_of_le_of_lt (by assumption) (by assumption) | exact rv1 (by assumption) (by assumption) | exact rv2 (by assumption) | exact cl1 (by assumption) (by assumption) | exact cl2 (by assumption) (by assumption) | exact cl3 (by assumption) | exact md1 (by assumption) (by assumption) | exact md2 (by assumption) (by assumption) | exact md3 (by assumption) | exact md4 (by assumption) (by assumption) | exact md5 (by assumption) | exact Nat.lt_succ_of_lt (by assumption) | exact Nat.lt_of_succ_lt (by assumption) | exact Nat.lt_succ_self _ | lia))
      unfold closed at go
      split
      · rename_i hq; rw [if_pos hq] at go; exact go
      · rename_i hq; rw [if_neg hq] at go; exact go
    | false =>
      show Runs lt N (if false = true then _ else KasT.ask (at' p (n - 1)) (at' p n) fun d => if d = true then .ret (p, n, q) else kas_desc f p (n + 1) (q + 1)) _
      rw [if_neg (by simp)]
      refine ⟨h.lt' (by first | assumption | exact Nat.lt_trans (by assumption) (by assumption) | exact Nat.lt_of_lt_of_le (by assumption) (by assumption) | exact Nat.le_of_lt (by assumption) | exact Nat.lt_of_le_of_lt (by assumption) (by assumption) | exact rv1 (by assumption) (by assumption) | exact rv2 (by assumption) | exact cl1 (by assumption) (by assumption) | exact cl2 (by assumption) (by assumption) | exact cl3 (by assumption) | exact md1 (by assumption) (by assumption) | exact md2 (by assumption) (by assumption) | exact md3 (by assumption) | exact md4 (by assumption) (by assumption) | exact md5 (by assumption) | exact Nat.lt_succ_of_lt (by assumption) | exact Nat.lt_of_succ_lt (by assumption) | exact Nat.lt_succ_self _ | lia) (by first | assumption | exact Nat.lt_trans (by assumption) (by assumption) | exact Nat.lt_of_lt_of_le (by assumption) (by assumption) | exact Nat.le_of_lt (by assumption) | exact Nat.lt_of_le_of_lt (by assumption) (by assumption) | exact rv1 (by assumption) (by assumption) | exact rv2 (by assumption) | exact cl1 (by assumption) (by assumption) | exact cl2 (by assumption) (by assumption) | exact cl3 (by assumption) | exact md1 (by assumption) (by assumption) | exact md2 (by assumption) (by assumption) | exact md3 (by assumption) | exact md4 (by assumption) (by assumption) | exact md5 (by assumption) | exact Nat.lt_succ_of_lt (by assumption) | exact Nat.lt_of_succ_lt (by assumption) | exact Nat.lt_succ_self _ | lia), h.lt' (by first | assumption | exact Nat.lt_trans (by assumption) (by assumption) | exact Nat.lt_of_lt_of_le (by assumption) (by assumption) | exact Nat.le_of_lt (by assumption) | exact Nat.lt_of_le_of_lt (by assumption) (by assumption) | exact rv1 (by assumption) (by assumption) | exact rv2 (by assumption) | exact cl1 (by assumption) (by assumption) | exact cl2 (by assumption) (by assumption) | exact cl3 (by assumption) | exact md1 (by assumption) (by assumption) | exact md2 (by assumption) (by assumption) | exact md3 (by assumption) | exact md4 (by assumption) (by assumption) | exact md5 (by assumption) | exact Nat.lt_succ_of_lt (by assumption) | exact Nat.lt_of_succ_lt (by assumption) | exact Nat.lt_succ_self _ | lia) (by first | assumption | exact Nat.lt_trans (by assumption) (by assumption) | exact Nat.lt_of_lt_of_le (by assumption) (by assumption) | exact Nat.le_of_lt (by assumption) | exact Nat.lt_of_le_of_lt (by assumption) (by assumption) | exact rv1 (by assumption) (by assumption) | exact rv2 (by assumption) | exact cl1 (by assumption) (by assumption) | exact cl2 (by assumption) (by assumption) | exact cl3 (by assumption) | exact md1 (by assumption) (by assumption) | exact md2 (by assumption) (by assumption) | exact md3 (by assumption) | exact md4 (by assumption) (by assumption) | exact md5 (by assumption) | exact Nat.lt_succ_of_lt (by assumption) | exact Nat.lt_of_succ_lt (by assumption) | exact Nat.lt_succ_self _ | lia), ?_⟩
      cases d : lt (at' p (n - 1)) (at' p n) with
      | true =>
        show Runs lt N (if true = true then .ret (p, n, q) else _) _
        rw [if_pos rfl]
        exact ⟨h, Nat.le_refl _, (by lia : n ≤ N)⟩
      | false =>
        show Runs lt N (if false = true then _ else kas_desc f p (n + 1) (q + 1)) _
        rw [if_neg (by simp)]
        refine Runs.mono (fun r hr => ⟨hr.1, Nat.le_of_succ_le hr.2.1, hr.2.2⟩) (ih p (n + 1) (q + 1) ⟨h.sz, h.perm, fun k hk => ?_, fun k hk hk' => h.tail k (by first | assumption | exact Nat.lt_trans (by assumption) (by assumption) | exact Nat.lt_of_lt_of_le (by assumption) (by assumption) | exact Nat.le_of_lt (by assumption) | exact Nat.lt_of_le_of_lt (by assumption) (by assumption) | exact rv1 (by assumption) (by assumption) | exact rv2 (by assumption) | exact cl1 (by assumption) (by assumption) | exact cl2 (by assumption) (by assumption) | exact cl3 (by assumption) | exact md1 (by assumption) (by assumption) | exact md2 (by assumption) (by assumption) | exact md3 (by assumption) | exact md4 (by assumption) (by assumption) | exact md5 (by assumption) | exact Nat.lt_succ_of_lt (by assumption) | exact Nat.lt_of_succ_lt (by assumption) | exact Nat.lt_succ_self _ | lia) hk', by lia, fun a b hab hb => h.dec a b hab (by first | assumption | exact Nat.lt_trans (by assumption) (by assumption) | exact Nat.lt_of_lt_of_le (by assumption) (by assumption) | exact Nat.le_of_lt (by assumption) | exact Nat.lt_of_le_of_lt (by assumption) (by assumption) | exact rv1 (by assumption) (by assumption) | exact rv2 (by assumption) | exact cl1 (by assumption) (by assumption) | exact cl2 (by assumption) (by assumption) | exact cl3 (by assumption) | exact md1 (by assumption) (by assumption) | exact md2 (by assumption) (by assumption) | exact md3 (by assumption) | exact md4 (by assumption) (by assumption) | exact md5 (by assumption) | exact Nat.lt_succ_of_lt (by assumption) | exact Nat.lt_of_succ_lt (by assumption) | exact Nat.lt_succ_self _ | lia), fun a b ha hb hb' => ?_, fun a b ha hab hb => ?_, fun a b ha ha' hb hb' => ?_⟩ (by first | assumption | exact Nat.lt_trans (by assumption) (by assumption) | exact Nat.lt_of_lt_of_le (by assumption) (by assumption) | exact Nat.le_of_lt (by assumption) | exact Nat.lt_of_le_of_lt (by assumption) (by assumption) | exact rv1 (by assumption) (by assumption) | exact rv2 (by assumption) | exact cl1 (by assumption) (by assumption) | exact cl2 (by assumption) (by assumption) | exact cl3 (by assumption) | exact md1 (by assumption) (by assumption) | exact md2 (by assumption) (by assumption) | exact md3 (by assumption) | exact md4 (by assumption) (by assumption) | exact md5 (by assumption) | exact Nat.lt_succ_of_lt (by assumption) | exact Nat.lt_of_succ_lt (by assumption) | exact Nat.lt_succ_self _ | lia))
        · by_cases c : k < n
          · exact Nat.lt_succ_of_lt (h.low k c)
          · have : k = n := by lia
            subst this; rw [en]; lia
        · by_cases c2 : b < n
          · exact h.gap a b (by first | assumption | exact Nat.lt_trans (by assumption) (by assumption) | exact Nat.lt_of_lt_of_le (by assumption) (by assumption) | exact Nat.le_of_lt (by assumption) | exact Nat.lt_of_le_of_lt (by assumption) (by assumption) | exact rv1 (by assumption) (by assumption) | exact rv2 (by assumption) | exact cl1 (by assumption) (by assumption) | exact cl2 (by assumption) (by assumption) | exact cl3 (by assumption) | exact md1 (by assumption) (by assumption) | exact md2 (by assumption) (by assumption) | exact md3 (by assumption) | exact md4 (by assumption) (by assumption) | exact md5 (by assumption) | exact Nat.lt_succ_of_lt (by assumption) | exact Nat.lt_of_succ_lt (by assumption) | exact Nat.lt_succ_self _ | lia) (by first | assumption | exact Nat.lt_trans (by assumption) (by assumption) | exact Nat.lt_of_lt_of_le (by assumption) (by assumption) | exact Nat.le_of_lt (by assumption) | exact Nat.lt_of_le_of_lt (by assumption) (by assumption) | exact rv1 (by assumption) (by assumption) | exact rv2 (by assumption) | exact cl1 (by assumption) (by assumption) | exact cl2 (by assumption) (by assumption) | exact cl3 (by assumption) | exact md1 (by assumption) (by assumption) | exact md2 (by assumption) (by assumption) | exact md3 (by assumption) | exact md4 (by assumption) (by assumption) | exact md5 (by assumption) | exact Nat.lt_succ_of_lt (by assumption) | exact Nat.lt_of_succ_lt (by assumption) | exact Nat.lt_succ_self _ | lia) c2
          · have : b = n := by lia
            subst this
            exact W.le_lt d (h.gap a (b - 1) (by first | assumption | exact Nat.lt_trans (by assumption) (by assumption) | exact Nat.lt_of_lt_of_le (by assumption) (by assumption) | exact Nat.le_of_lt (by assumption) | exact Nat.lt_of_le_of_lt (by assumption) (by assumption) | exact rv1 (by assumption) (by assumption) | exact rv2 (by assumption) | exact cl1 (by assumption) (by assumption) | exact cl2 (by assumption) (by assumption) | exact cl3 (by assumption) | exact md1 (by assumption) (by assumption) | exact md2 (by assumption) (by assumption) | exact md3 (by assumption) | exact md4 (by assumption) (by assumption) | exact md5 (by assumption) | exact Nat.lt_succ_of_lt (by assumption) | exact Nat.lt_of_succ_lt (by assumption) | exact Nat.lt_succ_self _ | lia) (by first | assumption | exact Nat.lt_trans (by assumption) (by assumption) | exact Nat.lt_of_lt_of_le (by assumption) (by assumption) | exact Nat.le_of_lt (by assumption) | exact Nat.lt_of_le_of_lt (by assumption) (by assumption) | exact rv1 (by assumption) (by assumption) | exact rv2 (by assumption) | exact cl1 (by assumption) (by assumption) | exact cl2 (by assumption) (by assumption) | exact cl3 (by assumption) | exact md1 (by assumption) (by assumption) | exact md2 (by assumption) (by assumption) | exact md3 (by assumption) | exact md4 (by assumption) (by assumption) | exact md5 (by assumption) | exact Nat.lt_succ_of_lt (by assumption) | exact Nat.lt_of_succ_lt (by assumption) | exact Nat.lt_succ_self _ | lia) (by first | assumption | exact Nat.lt_trans (by assumption) (by assumption) | exact Nat.lt_of_lt_of_le (by assumption) (by assumption) | exact Nat.le_of_lt (by assumption) | exact Nat.lt_of_le_of_lt (by assumption) (by assumption) | exact rv1 (by assumption) (by assumption) | exact rv2 (by assumption) | exact cl1 (by assumption) (by assumption) | exact cl2 (by assumption) (by assumption) | exact cl3 (by assumption) | exact md1 (by assumption) (by assumption) | exact md2 (by assumption) (by assumption) | exact md3 (by assumption) | exact md4 (by assumption) (by assumption) | exact md5 (by assumption) | exact Nat.lt_succ_of_lt (by assumption) | exact Nat.lt_of_succ_lt (by assumption) | exact Nat.lt_succ_self _ | lia))
        · by_cases c2 : b < n
          · exact h.grpo a b (by first | assumption | exact Nat.lt_trans (by assumption) (by assumption) | exact Nat.lt_of_lt_of_le (by assumption) (by assumption) | exact Nat.le_of_lt (by assumption) | exact Nat.lt_of_le_of_lt (by assumption) (by assumption) | exact rv1 (by assumption) (by assumption) | exact rv2 (by assumption) | exact cl1 (by assumption) (by assumption) | exact cl2 (by assumption) (by assumption) | exact cl3 (by assumption) | exact md1 (by assumption) (by assumption) | exact md2 (by assumption) (by assumption) | exact md3 (by assumption) | exact md4 (by assumption) (by assumption) | exact md5 (by assumption) | exact Nat.lt_succ_of_lt (by assumption) | exact Nat.lt_of_succ_lt (by assumption) | exact Nat.lt_succ_self _ | lia) hab c2
          · have : b = n := by lia
            subst this; rw [en]; exact h.low a (by first | assumption | exact Nat.lt_trans (by assumption) (by assumption) | exact Nat.lt_of_lt_of_le (by assumption) (by assumption) | exact Nat.le_of_lt (by assumption) | exact Nat.lt_of_le_of_lt (by assumption) (by assumption) | exact rv1 (by assumption) (by assumption) | exact rv2 (by assumption) | exact cl1 (by assumption) (by assumption) | exact cl2 (by assumption) (by assumption) | exact cl3 (by assumption) | exact md1 (by assumption) (by assumption) | exact md2 (by assumption) (by assumption) | exact md3 (by assumption) | exact md4 (by assumption) (by assumption) | exact md5 (by assumption) | exact Nat.lt_succ_of_lt (by assumption) | exact Nat.lt_of_succ_lt (by assumption) | exact Nat.lt_succ_self _ | lia)
        · by_cases c2 : b < n
          · by_cases c3 : a < n
            · exact h.grpe a b (by first | assumption | exact Nat.lt_trans (by assumption) (by assumption) | exact Nat.lt_of_lt_of_le (by assumption) (by assumption) | exact Nat.le_of_lt (by assumption) | exact Nat.lt_of_le_of_lt (by assumption) (by assumption) | exact rv1 (by assumption) (by assumption) | exact rv2 (by assumption) | exact cl1 (by assumption) (by assumption) | exact cl2 (by assumption) (by assumption) | exact cl3 (by assumption) | exact md1 (by assumption) (by assumption) | exact md2 (by assumption) (by assumption) | exact md3 (by assumption) | exact md4 (by assumption) (by assumption) | exact md5 (by assumption) | exact Nat.lt_succ_of_lt (by assumption) | exact Nat.lt_of_succ_lt (by assumption) | exact Nat.lt_succ_self _ | lia) c3 (by first | assumption | exact Nat.lt_trans (by assumption) (by assumption) | exact Nat.lt_of_lt_of_le (by assumption) (by assumption) | exact Nat.le_of_lt (by assumption) | exact Nat.lt_of_le_of_lt (by assumption) (by assumption) | exact rv1 (by assumption) (by assumption) | exact rv2 (by assumption) | exact cl1 (by assumption) (by assumption) | exact cl2 (by assumption) (by assumption) | exact cl3 (by assumption) | exact md1 (by assumption) (by assumption) | exact md2 (by assumption) (by assumption) | exact md3 (by assumption) | exact md4 (by assumption) (by assumption) | exact md5 (by assumption) | exact Nat.lt_succ_of_lt (by assumption) | exact Nat.lt_of_succ_lt (by assumption) | exact Nat.lt_succ_self _ | lia) c2
            · have : a = n := by lia
              subst this
              exact W.le_tr (h.grpe (a - 1) b (by first | assumption | exact Nat.lt_trans (by assumption) (by assumption) | exact Nat.lt_of_lt_of_le (by assumption) (by assumption) | exact Nat.le_of_lt (by assumption) | exact Nat.lt_of_le_of_lt (by assumption) (by assumption) | exact rv1 (by assumption) (by assumption) | exact rv2 (by assumption) | exact cl1 (by assumption) (by assumption) | exact cl2 (by assumption) (by assumption) | exact cl3 (by assumption) | exact md1 (by assumption) (by assumption) | exact md2 (by assumption) (by assumption) | exact md3 (by assumption) | exact md4 (by assumption) (by assumption) | exact md5 (by assumption) | exact Nat.lt_succ_of_lt (by assumption) | exact Nat.lt_of_succ_lt (by assumption) | exact Nat.lt_succ_self _ | lia) (by first | assumption | exact Nat.lt_trans (by assumption) (by assumption) | exact Nat.lt_of_lt_of_le (by assumption) (by assumption) | exact Nat.le_of_lt (by assumption) | exact Nat.lt_of_le_of_lt (by assumption) (by assumption) | exact rv1 (by assumption) (by assumption) | exact rv2 (by assumption) | exact cl1 (by assumption) (by assumption) | exact cl2 (by assumption) (by assumption) | exact cl3 (by assumption) | exact md1 (by assumption) (by assumption) | exact md2 (by assumption) (by assumption) | exact md3 (by assumption) | exact md4 (by assumption) (by assumption) | exact md5 (by assumption) | exact Nat.lt_succ_of_lt (by assumption) | exact Nat.lt_of_succ_lt (by assumption) | exact Nat.lt_succ_self _ | lia) (by first | assumption | exact Nat.lt_trans (by assumption) (by assumption) | exact Nat.lt_of_lt_of_le (by assumption) (by assumption) | exact Nat.le_of_lt (by assumption) | exact Nat.lt_of_le_of_lt (by assumption) (by assumption) | exact rv1 (by assumption) (by assumption) | exact rv2 (by assumption) | exact cl1 (by assumption) (by assumption) | exact cl2 (by assumption) (by assumption) | exact cl3 (by assumption) | exact md1 (by assumption) (by assumption) | exact md2 (by assumption) (by assumption) | exact md3 (by assumption) | exact md4 (by assumption) (by assumption) | exact md5 (by assumption) | exact Nat.lt_succ_of_lt (by assumption) | exact Nat.lt_of_succ_lt (by assumption) | exact Nat.lt_succ_self _ | lia) c2) c
          · have : b = n := by lia
            subst this
            by_cases c3 : a < b
            · exact W.le_tr d (h.grpe a (b - 1) (by first | assumption | exact Nat.lt_trans (by assumption) (by assumption) | exact Nat.lt_of_lt_of_le (by assumption) (by assumption) | exact Nat.le_of_lt (by assumption) | exact Nat.lt_of_le_of_lt (by assumption) (by assumption) | exact rv1 (by assumption) (by assumption) | exact rv2 (by assumption) | exact cl1 (by assumption) (by assumption) | exact cl2 (by assumption) (by assumption) | exact cl3 (by assumption) | exact md1 (by assumption) (by assumption) | exact md2 (by assumption) (by assumption) | exact md3 (by assumption) | exact md4 (by assumption) (by assumption) | exact md5 (by assumption) | exact Nat.lt_succ_of_lt (by assumption) | exact Nat.lt_of_succ_lt (by assumption) | exact Nat.lt_succ_self _ | lia) c3 (by first | assumption | exact Nat.lt_trans (by assumption) (by assumption) | exact Nat.lt_of_lt_of_le (by assumption) (by assumption) | exact Nat.le_of_lt (by assumption) | exact Nat.lt_of_le_of_lt (by assumption) (by assumption) | exact rv1 (by assumption) (by assumption) | exact rv2 (by assumption) | exact cl1 (by assumption) (by assumption) | exact cl2 (by assumption) (by assumption) | exact cl3 (by assumption) | exact md1 (by assumption) (by assumption) | exact md2 (by assumption) (by assumption) | exact md3 (by assumption) | exact md4 (by assumption) (by assumption) | exact md5 (by assumption) | exact Nat.lt_succ_of_lt (by assumption) | exact Nat.lt_of_succ_lt (by assumption) | exact Nat.lt_succ_self _ | lia) (by first | assumption | exact Nat.lt_trans (by assumption) (by assumption) | exact Nat.lt_of_lt_of_le (by assumption) (by assumption) | exact Nat.le_of_lt (by assumption) | exact Nat.lt_of_le_of_lt (by assumption) (by assumption) | exact rv1 (by assumption) (by assumption) | exact rv2 (by assumption) | exact cl1 (by assumption) (by assumption) | exact cl2 (by assumption) (by assumption) | exact cl3 (by assumption) | exact md1 (by assumption) (by assumption) | exact md2 (by assumption) (by assumption) | exact md3 (by assumption) | exact md4 (by assumption) (by assumption) | exact md5 (by assumption) | exact Nat.lt_succ_of_lt (by assumption) | exact Nat.lt_of_succ_lt (by assumption) | exact Nat.lt_succ_self _ | lia))
            · have : a = b := by lia
              subst this; exact W.irr _

theorem Dec.rise {p : Array Nat} {n : Nat} (h : Dec lt N p n) (hn : n ≤ N) : St lt N (kas_rev p 0 n) n := by
  have e : ∀ k, k < N → at' (kas_rev p 0 n) k = if 0 ≤ k ∧ k < n then at' p (0 + n - 1 - k) else at' p k := fun k hk => at_rev (by rw [h.sz]; exact hn) (by rw [h.sz]; exact hk)
  refine ⟨by rw [rev_size, h.sz], (rev_perm _ _ _).trans h.perm, fun k hk => ?_, fun k hk hk' => ?_, fun a b hab hb => ?_⟩
  · rw [e k (by first | assumption | exact Nat.lt_trans (by assumption) (by assumption) | exact Nat.lt_of_lt_of_le (by assumption) (by assumption) | exact Nat.le_of_lt (by assumption) | exact Nat.lt_of_le_of_lt (by assumption) (by assumption) | exact rv1 (by assumption) (by assumption) | exact rv2 (by assumption) | exact cl1 (by assumption) (by assumption) | exact cl2 (by assumption) (by assumption) | exact cl3 (by assumption) | exact md1 (by assumption) (by assumption) | exact md2 (by assumption) (by assumption) | exact md3 (by assumption) | exact md4 (by assumption) (by assumption) | exact md5 (by assumption) | exact Nat.lt_succ_of_lt (by assumption) | exact Nat.lt_of_succ_lt (by assumption) | exact Nat.lt_succ_self _ | lia), if_pos ⟨Nat.zero_le _, hk⟩]; exact h.low _ (by first | assumption | exact Nat.lt_trans (by assumption) (by assumption) | exact Nat.lt_of_lt_of_le (by assumption) (by assumption) | exact Nat.le_of_lt (by assumption) | exact Nat.lt_of_le_of_lt (by assumption) (by assumption) | exact rv1 (by assumption) (by assumption) | exact rv2 (by assumption) | exact cl1 (by assumption) (by assumption) | exact cl2 (by assumption) (by assumption) | exact cl3 (by assumption) | exact md1 (by assumption) (by assumption) | exact md2 (by assumption) (by assumption) | exact md3 (by assumption) | exact md4 (by assumption) (by assumption) | exact md5 (by assumption) | exact Nat.lt_succ_of_lt (by assumption) | exact Nat.lt_of_succ_lt (by assumption) | exact Nat.lt_succ_self _ | lia)
  · rw [e k hk', if_neg (by first | assumption | exact Nat.lt_trans (by assumption) (by assumption) | exact Nat.lt_of_lt_of_le (by assumption) (by assumption) | exact Nat.le_of_lt (by assumption) | exact Nat.lt_of_le_of_lt (by assumption) (by assumption) | exact rv1 (by assumption) (by assumption) | exact rv2 (by assumption) | exact cl1 (by assumption) (by assumption) | exact cl2 (by assumption) (by assumption) | exact cl3 (by assumption) | exact md1 (by assumption) (by assumption) | exact md2 (by assumption) (by assumption) | exact md3 (by assumption) | exact md4 (by assumption) (by assumption) | exact md5 (by assumption) | exact Nat.lt_succ_of_lt (by assumption) | exact Nat.lt_of_succ_lt (by assumption) | exact Nat.lt_succ_self _ | lia)]; exact h.tail k hk hk'
  · rw [e a (by first | assumption | exact Nat.lt_trans (by assumption) (by assumption) | exact Nat.lt_of_lt_of_le (by assumption) (by assumption) | exact Nat.le_of_lt (by assumption) | exact Nat.lt_of_le_of_lt (by assumption) (by assumption) | exact rv1 (by assumption) (by assumption) | exact rv2 (by assumption) | exact cl1 (by assumption) (by assumption) | exact cl2 (by assumption) (by assumption) | exact cl3 (by assumption) | exact md1 (by assumption) (by assumption) | exact md2 (by assumption) (by assumption) | exact md3 (by assumption) | exact md4 (by assumption) (by assumption) | exact md5 (by assumption) | exact Nat.lt_succ_of_lt (by assumption) | exact Nat.lt_of_succ_lt (by assumption) | exact Nat.lt_succ_self _ | lia), e b (by first | assumption | exact Nat.lt_trans (by assumption) (by assumption) | exact Nat.lt_of_lt_of_le (by assumption) (by assumption) | exact Nat.le_of_lt (by assumption) | exact Nat.lt_of_le_of_lt (by assumption) (by assumption) | exact rv1 (by assumption) (by assumption) | exact rv2 (by assumption) | exact cl1 (by assumption) (by assumption) | exact cl2 (by assumption) (by assumption) | exact cl3 (by assumption) | exact md1 (by assumption) (by assumption) | exact md2 (by assumption) (by assumption) | exact md3 (by assumption) | exact md4 (by assumption) (by assumption) | exact md5 (by assumption) | exact Nat.lt_succ_of_lt (by assumption) | exact Nat.lt_of_succ_lt (by assumption) | exact Nat.lt_succ_self _ | lia), if_pos ⟨Nat.zero_le _, by lia⟩, if_pos ⟨Nat.zero_le _, hb⟩]
    exact h.dec _ _ (by first | assumption | exact Nat.lt_trans (by assumption) (by assumption) | exact Nat.lt_of_lt_of_le (by assumption) (by assumption) | exact Nat.le_of_lt (by assumption) | exact Nat.lt_of_le_of_lt (by assumption) (by assumption) | exact rv1 (by assumption) (by assumption) | exact rv2 (by assumption) | exact cl1 (by assumption) (by assumption) | exact cl2 (by assumption) (by assumption) | exact cl3 (by assumption) | exact md1 (by assumption) (by assumption) | exact md2 (by assumption) (by assumption) | exact md3 (by assumption) | exact md4 (by assumption) (by assumption) | exact md5 (by assumption) | exact Nat.lt_succ_of_lt (by assumption) | exact Nat.lt_of_succ_lt (by assumption) | exact Nat.lt_succ_self _ | lia) (by first | assumption | exact Nat.lt_trans (by assumption) (by assumption) | exact Nat.lt_of_lt_of_le (by assumption) (by assumption) | exact Nat.le_of_lt (by assumption) | exact Nat.lt_of_le_of_lt (by assumption) (by assumption) | exact rv1 (by assumption) (by assumption) | exact rv2 (by assumption) | exact cl1 (by assumption) (by assumption) | exact cl2 (by assumption) (by assumption) | exact cl3 (by assumption) | exact md1 (by assumption) (by assumption) | exact md2 (by assumption) (by assumption) | exact md3 (by assumption) | exact md4 (by assumption) (by assumption) | exact md5 (by assumption) | exact Nat.lt_succ_of_lt (by assumption) | exact Nat.lt_of_succ_lt (by assumption) | exact Nat.lt_succ_self _ | lia)
theorem tail3_runs (W : SWO lt) {p : Array Nat} {n : Nat} (h : Dec lt N p n) (h1 : 1 ≤ n) (hn : n ≤ N) : Runs lt N (kas_tail3 n N p) (fun r => St lt N r.2 r.1 ∧ 1 ≤ r.1 ∧ r.1 ≤ N) := by
  unfold kas_tail3
  refine Runs.bind (Runs.mono (fun m hm => ?_) (asc_runs W (N - n) n _ (h.rise hn) h1 (by first | assumption | exact Nat.lt_trans (by assumption) (by assumption) | exact Nat.lt_of_lt_of_le (by assumption) (by assumption) | exact Nat.le_of_lt (by assumption) | exact Nat.lt_of_le_of_lt (by assumption) (by assumption) | exact rv1 (by assumption) (by assumption) | exact rv2 (by assumption) | exact cl1 (by assumption) (by assumption) | exact cl2 (by assumption) (by assumption) | exact cl3 (by assumption) | exact md1 (by assumption) (by assumption) | exact md2 (by assumption) (by assumption) | exact md3 (by assumption) | exact md4 (by assumption) (by assumption) | exact md5 (by assumption) | exact Nat.lt_succ_of_lt (by assumption) | exact Nat.lt_of_succ_lt (by assumption) | exact Nat.lt_succ_self _ | lia)))
  exact ⟨hm.1, Nat.le_trans h1 hm.2.1, hm.2.2.1⟩
theorem descPart_runs (W : SWO lt) {p : Array Nat} {n : Nat} (h : DSt lt N p (n + 1) 0) (hn : n + 1 ≤ N) : Runs lt N (kas_descPart n N p) (fun r => St lt N r.2 r.1 ∧ 1 ≤ r.1 ∧ r.1 ≤ N) := by
  unfold kas_descPart
  refine Runs.bind (Runs.mono (fun r hr => ?_) (desc_runs W (N - (n + 1)) p (n + 1) 0 h (by first | assumption | exact Nat.lt_trans (by assumption) (by assumption) | exact Nat.lt_of_lt_of_le (by assumption) (by assumption) | exact Nat.le_of_lt (by assumption) | exact Nat.lt_of_le_of_lt (by assumption) (by assumption) | exact rv1 (by assumption) (by assumption) | exact rv2 (by assumption) | exact cl1 (by assumption) (by assumption) | exact cl2 (by assumption) (by assumption) | exact cl3 (by assumption) | exact md1 (by assumption) (by assumption) | exact md2 (by assumption) (by assumption) | exact md3 (by assumption) | exact md4 (by assumption) (by assumption) | exact md5 (by assumption) | exact Nat.lt_succ_of_lt (by assumption) | exact Nat.lt_of_succ_lt (by assumption) | exact Nat.lt_succ_self _ | lia)))
  obtain ⟨p', n', q'⟩ := r
  obtain ⟨h', h1, h2⟩ := hr
  dsimp only at h' h1 h2 ⊢
  have hd := closed_dec h' h2
  have := tail3_runs W hd (by first | assumption | exact Nat.lt_trans (by assumption) (by assumption) | exact Nat.lt_of_lt_of_le (by assumption) (by assumption) | exact Nat.le_of_lt (by assumption) | exact Nat.lt_of_le_of_lt (by assumption) (by assumption) | exact rv1 (by assumption) (by assumption) | exact rv2 (by assumption) | exact cl1 (by assumption) (by assumption) | exact cl2 (by assumption) (by assumption) | exact cl3 (by assumption) | exact md1 (by assumption) (by assumption) | exact md2 (by assumption) (by assumption) | exact md3 (by assumption) | exact md4 (by assumption) (by assumption) | exact md5 (by assumption) | exact Nat.lt_succ_of_lt (by assumption) | exact Nat.lt_of_succ_lt (by assumption) | exact Nat.lt_succ_self _ | lia) h2
  unfold closed at this
  split
  · rename_i c; rw [if_pos c] at this; exact this
  · rename_i c; rw [if_neg c] at this; exact this
theorem start_st {lt : Nat → Nat → Bool} {N : Nat} (hN : 1 ≤ N) : St lt N (List.toArray (List.range N)) 1 := by
  have e : ∀ k, k < N → at' (List.toArray (List.range N)) k = k := fun k hk => by simp [at', Array.getD, hk]
  refine ⟨by simp, Array.Perm.refl _, fun k hk => ?_, fun k _ hk' => e k hk', fun a b hab hb => by lia⟩
  have : k = 0 := by lia
  subst this; rw [e 0 (by first | assumption | exact Nat.lt_trans (by assumption) (by assumption) | exact Nat.lt_of_lt_of_le (by assumption) (by assumption) | exact Nat.le_of_lt (by assumption) | exact Nat.lt_of_le_of_lt (by assumption) (by assumption) | exact rv1 (by assumption) (by assumption) | exact rv2 (by assumption) | exact cl1 (by assumption) (by assumption) | exact cl2 (by assumption) (by assumption) | exact cl3 (by assumption) | exact md1 (by assumption) (by assumption) | exact md2 (by assumption) (by assumption) | exact md3 (by assumption) | exact md4 (by assumption) (by assumption) | exact md5 (by assumption) | exact Nat.lt_succ_of_lt (by assumption) | exact Nat.lt_of_succ_lt (by assumption) | exact Nat.lt_succ_self _ | lia)]; lia
theorem count_runs (W : SWO lt) (hN : 1 ≤ N) : Runs lt N (kas_count N (List.toArray (List.range N))) (fun r => St lt N r.2 r.1 ∧ 1 ≤ r.1 ∧ r.1 ≤ N) := by
  unfold kas_count
  refine Runs.bind (Runs.mono (fun n hn => ?_) (asc_runs W (N - 1) 1 _ (start_st hN) (Nat.le_refl _) (by first | assumption | exact Nat.lt_trans (by assumption) (by assumption) | exact Nat.lt_of_lt_of_le (by assumption) (by assumption) | exact Nat.le_of_lt (by assumption) | exact Nat.lt_of_le_of_lt (by assumption) (by assumption) | exact rv1 (by assumption) (by assumption) | exact rv2 (by assumption) | exact cl1 (by assumption) (by assumption) | exact cl2 (by assumption) (by assumption) | exact cl3 (by assumption) | exact md1 (by assumption) (by assumption) | exact md2 (by assumption) (by assumption) | exact md3 (by assumption) | exact md4 (by assumption) (by assumption) | exact md5 (by assumption) | exact Nat.lt_succ_of_lt (by assumption) | exact Nat.lt_of_succ_lt (by assumption) | exact Nat.lt_succ_self _ | lia)))
  obtain ⟨h, h1, h2, h3⟩ := hn
  split
  · rename_i e
    exact ⟨h, h1, h2⟩
  · rename_i e
    have hlt : n < N := by
      have : n ≠ N := fun q => e (by rw [q]; exact beq_self_eq_true _)
      lia
    have hs := h3 hlt
    have en : at' (List.toArray (List.range N)) n = n := h.tail n (Nat.le_refl _) hlt
    rw [en] at hs
    split
    · rename_i hn1
      refine ⟨h.lt' h2 (by first | assumption | exact Nat.lt_trans (by assumption) (by assumption) | exact Nat.lt_of_lt_of_le (by assumption) (by assumption) | exact Nat.le_of_lt (by assumption) | exact Nat.lt_of_le_of_lt (by assumption) (by assumption) | exact rv1 (by assumption) (by assumption) | exact rv2 (by assumption) | exact cl1 (by assumption) (by assumption) | exact cl2 (by assumption) (by assumption) | exact cl3 (by assumption) | exact md1 (by assumption) (by assumption) | exact md2 (by assumption) (by assumption) | exact md3 (by assumption) | exact md4 (by assumption) (by assumption) | exact md5 (by assumption) | exact Nat.lt_succ_of_lt (by assumption) | exact Nat.lt_of_succ_lt (by assumption) | exact Nat.lt_succ_self _ | lia), h.lt' h2 (by first | assumption | exact Nat.lt_trans (by assumption) (by assumption) | exact Nat.lt_of_lt_of_le (by assumption) (by assumption) | exact Nat.le_of_lt (by assumption) | exact Nat.lt_of_le_of_lt (by assumption) (by assumption) | exact rv1 (by assumption) (by assumption) | exact rv2 (by assumption) | exact cl1 (by assumption) (by assumption) | exact cl2 (by assumption) (by assumption) | exact cl3 (by assumption) | exact md1 (by assumption) (by assumption) | exact md2 (by assumption) (by assumption) | exact md3 (by assumption) | exact md4 (by assumption) (by assumption) | exact md5 (by assumption) | exact Nat.lt_succ_of_lt (by assumption) | exact Nat.lt_of_succ_lt (by assumption) | exact Nat.lt_succ_self _ | lia), ?_⟩
      cases c : lt (at' (List.toArray (List.range N)) 0) (at' (List.toArray (List.range N)) (n - 1)) with
      | true =>
        show Runs lt N (if true = true then .ret _ else _) _
        rw [if_pos rfl]
        exact ⟨h, h1, h2⟩
      | false =>
        show Runs lt N (if false = true then _ else kas_descPart n N _) _
        rw [if_neg (by simp)]
        have flat : ∀ a, a < n → lt (at' (List.toArray (List.range N)) a) (at' (List.toArray (List.range N)) (n - 1)) = false := fun a ha => by
          cases d : lt (at' (List.toArray (List.range N)) a) (at' (List.toArray (List.range N)) (n - 1)) with
          | false => rfl
          | true =>
            by_cases a0 : a = 0
            · subst a0; rw [d] at c; cases c
            · have b0 : lt (at' (List.toArray (List.range N)) a) (at' (List.toArray (List.range N)) 0) = false := by
                rcases h.ord 0 a (by first | assumption | exact Nat.lt_trans (by assumption) (by assumption) | exact Nat.lt_of_lt_of_le (by assumption) (by assumption) | exact Nat.le_of_lt (by assumption) | exact Nat.lt_of_le_of_lt (by assumption) (by assumption) | exact rv1 (by assumption) (by assumption) | exact rv2 (by assumption) | exact cl1 (by assumption) (by assumption) | exact cl2 (by assumption) (by assumption) | exact cl3 (by assumption) | exact md1 (by assumption) (by assumption) | exact md2 (by assumption) (by assumption) | exact md3 (by assumption) | exact md4 (by assumption) (by assumption) | exact md5 (by assumption) | exact Nat.lt_succ_of_lt (by assumption) | exact Nat.lt_of_succ_lt (by assumption) | exact Nat.lt_succ_self _ | lia) ha with x | x
                · exact W.asym x
                · exact x.1
              rw [W.le_lt b0 d] at c; cases c
        have er : ∀ k, k < N → at' (kas_rev (List.toArray (List.range N)) 0 n) k = if 0 ≤ k ∧ k < n then at' (List.toArray (List.range N)) (0 + n - 1 - k) else at' (List.toArray (List.range N)) k := fun k hk => at_rev (by rw [h.sz]; exact h2) (by rw [h.sz]; exact hk)
        have hd : Dec lt N (kas_rev (List.toArray (List.range N)) 0 n) n := by
          refine ⟨by rw [rev_size, h.sz], (rev_perm _ _ _).trans h.perm, fun k hk => ?_, fun k hk hk' => ?_, fun a b hab hb => ?_⟩
          · rw [er k (by first | assumption | exact Nat.lt_trans (by assumption) (by assumption) | exact Nat.lt_of_lt_of_le (by assumption) (by assumption) | exact Nat.le_of_lt (by assumption) | exact Nat.lt_of_le_of_lt (by assumption) (by assumption) | exact rv1 (by assumption) (by assumption) | exact rv2 (by assumption) | exact cl1 (by assumption) (by assumption) | exact cl2 (by assumption) (by assumption) | exact cl3 (by assumption) | exact md1 (by assumption) (by assumption) | exact md2 (by assumption) (by assumption) | exact md3 (by assumption) | exact md4 (by assumption) (by assumption) | exact md5 (by assumption) | exact Nat.lt_succ_of_lt (by assumption) | exact Nat.lt_of_succ_lt (by assumption) | exact Nat.lt_succ_self _ | lia), if_pos ⟨Nat.zero_le _, hk⟩]; exact h.low _ (by first | assumption | exact Nat.lt_trans (by assumption) (by assumption) | exact Nat.lt_of_lt_of_le (by assumption) (by assumption) | exact Nat.le_of_lt (by assumption) | exact Nat.lt_of_le_of_lt (by assumption) (by assumption) | exact rv1 (by assumption) (by assumption) | exact rv2 (by assumption) | exact cl1 (by assumption) (by assumption) | exact cl2 (by assumption) (by assumption) | exact cl3 (by assumption) | exact md1 (by assumption) (by assumption) | exact md2 (by assumption) (by assumption) | exact md3 (by assumption) | exact md4 (by assumption) (by assumption) | exact md5 (by assumption) | exact Nat.lt_succ_of_lt (by assumption) | exact Nat.lt_of_succ_lt (by assumption) | exact Nat.lt_succ_self _ | lia)
          · rw [er k hk', if_neg (by first | assumption | exact Nat.lt_trans (by assumption) (by assumption) | exact Nat.lt_of_lt_of_le (by assumption) (by assumption) | exact Nat.le_of_lt (by assumption) | exact Nat.lt_of_le_of_lt (by assumption) (by assumption) | exact rv1 (by assumption) (by assumption) | exact rv2 (by assumption) | exact cl1 (by assumption) (by assumption) | exact cl2 (by assumption) (by assumption) | exact cl3 (by assumption) | exact md1 (by assumption) (by assumption) | exact md2 (by assumption) (by assumption) | exact md3 (by assumption) | exact md4 (by assumption) (by assumption) | exact md5 (by assumption) | exact Nat.lt_succ_of_lt (by assumption) | exact Nat.lt_of_succ_lt (by assumption) | exact Nat.lt_succ_self _ | lia)]; exact h.tail k hk hk'
          · rw [er a (by first | assumption | exact Nat.lt_trans (by assumption) (by assumption) | exact Nat.lt_of_lt_of_le (by assumption) (by assumption) | exact Nat.le_of_lt (by assumption) | exact Nat.lt_of_le_of_lt (by assumption) (by assumption) | exact rv1 (by assumption) (by assumption) | exact rv2 (by assumption) | exact cl1 (by assumption) (by assumption) | exact cl2 (by assumption) (by assumption) | exact cl3 (by assumption) | exact md1 (by assumption) (by assumption) | exact md2 (by assumption) (by assumption) | exact md3 (by assumption) | exact md4 (by assumption) (by assumption) | exact md5 (by assumption) | exact Nat.lt_succ_of_lt (by assumption) | exact Nat.lt_of_succ_lt (by assumption) | exact Nat.lt_succ_self _ | lia), er b (by first | assumption | exact Nat.lt_trans (by assumption) (by assumption) | exact Nat.lt_of_lt_of_le (by assumption) (by assumption) | exact Nat.le_of_lt (by assumption) | exact Nat.lt_of_le_of_lt (by assumption) (by assumption) | exact rv1 (by assumption) (by assumption) | exact rv2 (by assumption) | exact cl1 (by assumption) (by assumption) | exact cl2 (by assumption) (by assumption) | exact cl3 (by assumption) | exact md1 (by assumption) (by assumption) | exact md2 (by assumption) (by assumption) | exact md3 (by assumption) | exact md4 (by assumption) (by assumption) | exact md5 (by assumption) | exact Nat.lt_succ_of_lt (by assumption) | exact Nat.lt_of_succ_lt (by assumption) | exact Nat.lt_succ_self _ | lia), if_pos (⟨Nat.zero_le _, hb⟩ : 0 ≤ b ∧ b < n), if_pos (⟨Nat.zero_le _, by lia⟩ : 0 ≤ a ∧ a < n)]
            exact h.ord _ _ (by first | assumption | exact Nat.lt_trans (by assumption) (by assumption) | exact Nat.lt_of_lt_of_le (by assumption) (by assumption) | exact Nat.le_of_lt (by assumption) | exact Nat.lt_of_le_of_lt (by assumption) (by assumption) | exact rv1 (by assumption) (by assumption) | exact rv2 (by assumption) | exact cl1 (by assumption) (by assumption) | exact cl2 (by assumption) (by assumption) | exact cl3 (by assumption) | exact md1 (by assumption) (by assumption) | exact md2 (by assumption) (by assumption) | exact md3 (by assumption) | exact md4 (by assumption) (by assumption) | exact md5 (by assumption) | exact Nat.lt_succ_of_lt (by assumption) | exact Nat.lt_of_succ_lt (by assumption) | exact Nat.lt_succ_self _ | lia) (by first | assumption | exact Nat.lt_trans (by assumption) (by assumption) | exact Nat.lt_of_lt_of_le (by assumption) (by assumption) | exact Nat.le_of_lt (by assumption) | exact Nat.lt_of_le_of_lt (by assumption) (by assumption) | exact rv1 (by assumption) (by assumption) | exact rv2 (by assumption) | exact cl1 (by assumption) (by assumption) | exact cl2 (by assumption) (by assumption) | exact cl3 (by assumption) | exact md1 (by assumption) (by assumption) | exact md2 (by assumption) (by assumption) | exact md3 (by assumption) | exact md4 (by assumption) (by assumption) | exact md5 (by assumption) | exact Nat.lt_succ_of_lt (by assumption) | exact Nat.lt_of_succ_lt (by assumption) | exact Nat.lt_succ_self _ | lia)
        refine descPart_runs W (hd.next hlt W fun a ha => ?_) (by first | assumption | exact Nat.lt_trans (by assumption) (by assumption) | exact Nat.lt_of_lt_of_le (by assumption) (by assumption) | exact Nat.le_of_lt (by assumption) | exact Nat.lt_of_le_of_lt (by assumption) (by assumption) | exact rv1 (by assumption) (by assumption) | exact rv2 (by assumption) | exact cl1 (by assumption) (by assumption) | exact cl2 (by assumption) (by assumption) | exact cl3 (by assumption) | exact md1 (by assumption) (by assumption) | exact md2 (by assumption) (by assumption) | exact md3 (by assumption) | exact md4 (by assumption) (by assumption) | exact md5 (by assumption) | exact Nat.lt_succ_of_lt (by assumption) | exact Nat.lt_of_succ_lt (by assumption) | exact Nat.lt_succ_self _ | lia)
        rw [er a (by first | assumption | exact Nat.lt_trans (by assumption) (by assumption) | exact Nat.lt_of_lt_of_le (by assumption) (by assumption) | exact Nat.le_of_lt (by assumption) | exact Nat.lt_of_le_of_lt (by assumption) (by assumption) | exact rv1 (by assumption) (by assumption) | exact rv2 (by assumption) | exact cl1 (by assumption) (by assumption) | exact cl2 (by assumption) (by assumption) | exact cl3 (by assumption) | exact md1 (by assumption) (by assumption) | exact md2 (by assumption) (by assumption) | exact md3 (by assumption) | exact md4 (by assumption) (by assumption) | exact md5 (by assumption) | exact Nat.lt_succ_of_lt (by assumption) | exact Nat.lt_of_succ_lt (by assumption) | exact Nat.lt_succ_self _ | lia), if_pos ⟨Nat.zero_le _, ha⟩]
        exact W.lt_le hs (flat _ (by first | assumption | exact Nat.lt_trans (by assumption) (by assumption) | exact Nat.lt_of_lt_of_le (by assumption) (by assumption) | exact Nat.le_of_lt (by assumption) | exact Nat.lt_of_le_of_lt (by assumption) (by assumption) | exact rv1 (by assumption) (by assumption) | exact rv2 (by assumption) | exact cl1 (by assumption) (by assumption) | exact cl2 (by assumption) (by assumption) | exact cl3 (by assumption) | exact md1 (by assumption) (by assumption) | exact md2 (by assumption) (by assumption) | exact md3 (by assumption) | exact md4 (by assumption) (by assumption) | exact md5 (by assumption) | exact Nat.lt_succ_of_lt (by assumption) | exact Nat.lt_of_succ_lt (by assumption) | exact Nat.lt_succ_self _ | lia))
    · rename_i hn1
      have n1 : n = 1 := by lia
      subst n1
      have hd : Dec lt N (List.toArray (List.range N)) 1 := ⟨h.sz, h.perm, h.low, h.tail, fun a b hab hb => by lia⟩
      refine descPart_runs W (hd.next hlt W fun a ha => ?_) (by first | assumption | exact Nat.lt_trans (by assumption) (by assumption) | exact Nat.lt_of_lt_of_le (by assumption) (by assumption) | exact Nat.le_of_lt (by assumption) | exact Nat.lt_of_le_of_lt (by assumption) (by assumption) | exact rv1 (by assumption) (by assumption) | exact rv2 (by assumption) | exact cl1 (by assumption) (by assumption) | exact cl2 (by assumption) (by assumption) | exact cl3 (by assumption) | exact md1 (by assumption) (by assumption) | exact md2 (by assumption) (by assumption) | exact md3 (by assumption) | exact md4 (by assumption) (by assumption) | exact md5 (by assumption) | exact Nat.lt_succ_of_lt (by assumption) | exact Nat.lt_of_succ_lt (by assumption) | exact Nat.lt_succ_self _ | lia)
      have : a = 0 := by lia
      subst this; exact hs
theorem place_runs {p : Array Nat} {k : Nat} (W : SWO lt) (h : St lt N p k) (hk : k < N) : ∀ (f l r : Nat), r - l ≤ f → l ≤ r → r ≤ k → (∀ j, j < l → lt (at' p k) (at' p j) = false) → (∀ j, r ≤ j → j < k → lt (at' p k) (at' p j) = true) →
    Runs lt N (kas_place p k f l r) (fun l' => l' ≤ k ∧ (∀ j, j < l' → lt (at' p k) (at' p j) = false) ∧ (∀ j, l' ≤ j → j < k → lt (at' p k) (at' p j) = true)) := by
  intro f
  induction f with
  | zero =>
    intro l r hf hlr hrk h1 h2
    have : l = r := by lia
    subst this
    exact ⟨hrk, h1, h2⟩
  | succ f ih =>
    intro l r hf hlr hrk h1 h2
    unfold kas_place
    by_cases c : l ≥ r
    · rw [if_pos c]
      have : l = r := by lia
      subst this
      exact ⟨hrk, h1, h2⟩
    · rw [if_neg c]
      refine ⟨h.lt' (by first | assumption | exact Nat.lt_trans (by assumption) (by assumption) | exact Nat.lt_of_lt_of_le (by assumption) (by assumption) | exact Nat.le_of_lt (by assumption) | exact Nat.lt_of_le_of_lt (by assumption) (by assumption) | exact rv1 (by assumption) (by assumption) | exact rv2 (by assumption) | exact cl1 (by assumption) (by assumption) | exact cl2 (by assumption) (by assumption) | exact cl3 (by assumption) | exact md1 (by assumption) (by assumption) | exact md2 (by assumption) (by assumption) | exact md3 (by assumption) | exact md4 (by assumption) (by assumption) | exact md5 (by assumption) | exact Nat.lt_succ_of_lt (by assumption) | exact Nat.lt_of_succ_lt (by assumption) | exact Nat.lt_succ_self _ | lia) hk, h.lt' (by first | assumption | exact Nat.lt_trans (by assumption) (by assumption) | exact Nat.lt_of_lt_of_le (by assumption) (by assumption) | exact Nat.le_of_lt (by assumption) | exact Nat.lt_of_le_of_lt (by assumption) (by assumption) | exact rv1 (by assumption) (by assumption) | exact rv2 (by assumption) | exact cl1 (by assumption) (by assumption) | exact cl2 (by assumption) (by assumption) | exact cl3 (by assumption) | exact md1 (by assumption) (by assumption) | exact md2 (by assumption) (by assumption) | exact md3 (by assumption) | exact md4 (by assumption) (by assumption) | exact md5 (by assumption) | exact Nat.lt_succ_of_lt (by assumption) | exact Nat.lt_of_succ_lt (by assumption) | exact Nat.lt_succ_self _ | lia) (by first | assumption | exact Nat.lt_trans (by assumption) (by assumption) | exact Nat.lt_of_lt_of_le (by assumption) (by assumption) | exact Nat.le_of_lt (by assumption) | exact Nat.lt_of_le_of_lt (by assumption) (by assumption) | exact rv1 (by assumption) (by assumption) | exact rv2 (by assumption) | exact cl1 (by assumption) (by assumption) | exact cl2 (by assumption) (by assumption) | exact cl3 (by assumption) | exact md1 (by assumption) (by assumption) | exact md2 (by assumption) (by assumption) | exact md3 (by assumption) | exact md4 (by assumption) (by assumption) | exact md5 (by assumption) | exact Nat.lt_succ_of_lt (by assumption) | exact Nat.lt_of_succ_lt (by assumption) | exact Nat.lt_succ_self _ | lia), ?_⟩
      have le_of : ∀ a b, a < b → b < k → lt (at' p b) (at' p a) = false := fun a b hab hb => by
        rcases h.ord a b hab hb with x | x
        · exact W.asym x
        · exact x.1
      cases d : lt (at' p k) (at' p ((l + r) / 2)) with
      | true =>
        show Runs lt N (if true = true then kas_place p k f l ((l + r) / 2) else _) _
        rw [if_pos rfl]
        refine ih l ((l + r) / 2) (by first | assumption | exact Nat.lt_trans (by assumption) (by assumption) | exact Nat.lt_of_lt_of_le (by assumption) (by assumption) | exact Nat.le_of_lt (by assumption) | exact Nat.lt_of_le_of_lt (by assumption) (by assumption) | exact rv1 (by assumption) (by assumption) | exact rv2 (by assumption) | exact cl1 (by assumption) (by assumption) | exact cl2 (by assumption) (by assumption) | exact cl3 (by assumption) | exact md1 (by assumption) (by assumption) | exact md2 (by assumption) (by assumption) | exact md3 (by assumption) | exact md4 (by assumption) (by assumption) | exact md5 (by assumption) | exact Nat.lt_succ_of_lt (by assumption) | exact Nat.lt_of_succ_lt (by assumption) | exact Nat.lt_succ_self _ | lia) (by first | assumption | exact Nat.lt_trans (by assumption) (by assumption) | exact Nat.lt_of_lt_of_le (by assumption) (by assumption) | exact Nat.le_of_lt (by assumption) | exact Nat.lt_of_le_of_lt (by assumption) (by assumption) | exact rv1 (by assumption) (by assumption) | exact rv2 (by assumption) | exact cl1 (by assumption) (by assumption) | exact cl2 (by assumption) (by assumption) | exact cl3 (by assumption) | exact md1 (by assumption) (by assumption) | exact md2 (by assumption) (by assumption) | exact md3 (by assumption) | exact md4 (by assumption) (by assumption) | exact md5 (by assumption) | exact Nat.lt_succ_of_lt (by assumption) | exact Nat.lt_of_succ_lt (by assumption) | exact Nat.lt_succ_self _ | lia) (by first | assumption | exact Nat.lt_trans (by assumption) (by assumption) | exact Nat.lt_of_lt_of_le (by assumption) (by assumption) | exact Nat.le_of_lt (by assumption) | exact Nat.lt_of_le_of_lt (by assumption) (by assumption) | exact rv1 (by assumption) (by assumption) | exact rv2 (by assumption) | exact cl1 (by assumption) (by assumption) | exact cl2 (by assumption) (by assumption) | exact cl3 (by assumption) | exact md1 (by assumption) (by assumption) | exact md2 (by assumption) (by assumption) | exact md3 (by assumption) | exact md4 (by assumption) (by assumption) | exact md5 (by assumption) | exact Nat.lt_succ_of_lt (by assumption) | exact Nat.lt_of_succ_lt (by assumption) | exact Nat.lt_succ_self _ | lia) h1 fun j hj hj' => ?_
        by_cases e : j = (l + r) / 2
        · subst e; exact d
        · exact W.lt_le d (le_of _ _ (by first | assumption | exact Nat.lt_trans (by assumption) (by assumption) | exact Nat.lt_of_lt_of_le (by assumption) (by assumption) | exact Nat.le_of_lt (by assumption) | exact Nat.lt_of_le_of_lt (by assumption) (by assumption) | exact rv1 (by assumption) (by assumption) | exact rv2 (by assumption) | exact cl1 (by assumption) (by assumption) | exact cl2 (by assumption) (by assumption) | exact cl3 (by assumption) | exact md1 (by assumption) (by assumption) | exact md2 (by assumption) (by assumption) | exact md3 (by assumption) | exact md4 (by assumption) (by assumption) | exact md5 (by assumption) | exact Nat.lt_succ_of_lt (by assumption) | exact Nat.lt_of_succ_lt (by assumption) | exact Nat.lt_succ_self _ | lia) hj')
      | false =>
        show Runs lt N (if false = true then _ else kas_place p k f ((l + r) / 2 + 1) r) _
        rw [if_neg (by simp)]
        refine ih ((l + r) / 2 + 1) r (by first | assumption | exact Nat.lt_trans (by assumption) (by assumption) | exact Nat.lt_of_lt_of_le (by assumption) (by assumption) | exact Nat.le_of_lt (by assumption) | exact Nat.lt_of_le_of_lt (by assumption) (by assumption) | exact rv1 (by assumption) (by assumption) | exact rv2 (by assumption) | exact cl1 (by assumption) (by assumption) | exact cl2 (by assumption) (by assumption) | exact cl3 (by assumption) | exact md1 (by assumption) (by assumption) | exact md2 (by assumption) (by assumption) | exact md3 (by assumption) | exact md4 (by assumption) (by assumption) | exact md5 (by assumption) | exact Nat.lt_succ_of_lt (by assumption) | exact Nat.lt_of_succ_lt (by assumption) | exact Nat.lt_succ_self _ | lia) (by first | assumption | exact Nat.lt_trans (by assumption) (by assumption) | exact Nat.lt_of_lt_of_le (by assumption) (by assumption) | exact Nat.le_of_lt (by assumption) | exact Nat.lt_of_le_of_lt (by assumption) (by assumption) | exact rv1 (by assumption) (by assumption) | exact rv2 (by assumption) | exact cl1 (by assumption) (by assumption) | exact cl2 (by assumption) (by assumption) | exact cl3 (by assumption) | exact md1 (by assumption) (by assumption) | exact md2 (by assumption) (by assumption) | exact md3 (by assumption) | exact md4 (by assumption) (by assumption) | exact md5 (by assumption) | exact Nat.lt_succ_of_lt (by assumption) | exact Nat.lt_of_succ_lt (by assumption) | exact Nat.lt_succ_self _ | lia) hrk (fun j hj => ?_) h2
        by_cases e : j = (l + r) / 2
        · subst e; exact d
        · exact W.le_tr (le_of j ((l + r) / 2) (by first | assumption | exact Nat.lt_trans (by assumption) (by assumption) | exact Nat.lt_of_lt_of_le (by assumption) (by assumption) | exact Nat.le_of_lt (by assumption) | exact Nat.lt_of_le_of_lt (by assumption) (by assumption) | exact rv1 (by assumption) (by assumption) | exact rv2 (by assumption) | exact cl1 (by assumption) (by assumption) | exact cl2 (by assumption) (by assumption) | exact cl3 (by assumption) | exact md1 (by assumption) (by assumption) | exact md2 (by assumption) (by assumption) | exact md3 (by assumption) | exact md4 (by assumption) (by assumption) | exact md5 (by assumption) | exact Nat.lt_succ_of_lt (by assumption) | exact Nat.lt_of_succ_lt (by assumption) | exact Nat.lt_succ_self _ | lia) (by first | assumption | exact Nat.lt_trans (by assumption) (by assumption) | exact Nat.lt_of_lt_of_le (by assumption) (by assumption) | exact Nat.le_of_lt (by assumption) | exact Nat.lt_of_le_of_lt (by assumption) (by assumption) | exact rv1 (by assumption) (by assumption) | exact rv2 (by assumption) | exact cl1 (by assumption) (by assumption) | exact cl2 (by assumption) (by assumption) | exact cl3 (by assumption) | exact md1 (by assumption) (by assumption) | exact md2 (by assumption) (by assumption) | exact md3 (by assumption) | exact md4 (by assumption) (by assumption) | exact md5 (by assumption) | exact Nat.lt_succ_of_lt (by assumption) | exact Nat.lt_of_succ_lt (by assumption) | exact Nat.lt_succ_self _ | lia)) d
theorem ins_st {p : Array Nat} {k l : Nat} (h : St lt N p k) (hk : k < N) (hl : l ≤ k) (h1 : ∀ j, j < l → lt (at' p k) (at' p j) = false) (h2 : ∀ j, l ≤ j → j < k → lt (at' p k) (at' p j) = true) : St lt N (bubble p k (k - l)) (k + 1) := by
  have ek : at' p k = k := h.tail k (Nat.le_refl _) hk
  have e : ∀ j, j < N → at' (bubble p k (k - l)) j = if j = l then k else if l < j ∧ j ≤ k then at' p (j - 1) else at' p j := fun j hj => by
    rw [at_bub (by rw [h.sz]; exact hk) (by first | assumption | exact Nat.lt_trans (by assumption) (by assumption) | exact Nat.lt_of_lt_of_le (by assumption) (by assumption) | exact Nat.le_of_lt (by assumption) | exact Nat.lt_of_le_of_lt (by assumption) (by assumption) | exact rv1 (by assumption) (by assumption) | exact rv2 (by assumption) | exact cl1 (by assumption) (by assumption) | exact cl2 (by assumption) (by assumption) | exact cl3 (by assumption) | exact md1 (by assumption) (by assumption) | exact md2 (by assumption) (by assumption) | exact md3 (by assumption) | exact md4 (by assumption) (by assumption) | exact md5 (by assumption) | exact Nat.lt_succ_of_lt (by assumption) | exact Nat.lt_of_succ_lt (by assumption) | exact Nat.lt_succ_self _ | lia) (by rw [h.sz]; exact hj), show k - (k - l) = l by lia, ek]
  rw [ek] at h1 h2
  refine ⟨by rw [bubble_size, h.sz], (bubble_perm _ _ _).trans h.perm, fun j hj => ?_, fun j hj hj' => ?_, fun a b hab hb => ?_⟩
  · rw [e j (by first | assumption | exact Nat.lt_trans (by assumption) (by assumption) | exact Nat.lt_of_lt_of_le (by assumption) (by assumption) | exact Nat.le_of_lt (by assumption) | exact Nat.lt_of_le_of_lt (by assumption) (by assumption) | exact rv1 (by assumption) (by assumption) | exact rv2 (by assumption) | exact cl1 (by assumption) (by assumption) | exact cl2 (by assumption) (by assumption) | exact cl3 (by assumption) | exact md1 (by assumption) (by assumption) | exact md2 (by assumption) (by assumption) | exact md3 (by assumption) | exact md4 (by assumption) (by assumption) | exact md5 (by assumption) | exact Nat.lt_succ_of_lt (by assumption) | exact Nat.lt_of_succ_lt (by assumption) | exact Nat.lt_succ_self _ | lia)]
    split
    · lia
    · split
      · exact Nat.lt_succ_of_lt (h.low _ (by first | assumption | exact Nat.lt_trans (by assumption) (by assumption) | exact Nat.lt_of_lt_of_le (by assumption) (by assumption) | exact Nat.le_of_lt (by assumption) | exact Nat.lt_of_le_of_lt (by assumption) (by assumption) | exact rv1 (by assumption) (by assumption) | exact rv2 (by assumption) | exact cl1 (by assumption) (by assumption) | exact cl2 (by assumption) (by assumption) | exact cl3 (by assumption) | exact md1 (by assumption) (by assumption) | exact md2 (by assumption) (by assumption) | exact md3 (by assumption) | exact md4 (by assumption) (by assumption) | exact md5 (by assumption) | exact Nat.lt_succ_of_lt (by assumption) | exact Nat.lt_of_succ_lt (by assumption) | exact Nat.lt_succ_self _ | lia))
      · exact Nat.lt_succ_of_lt (h.low _ (by first | assumption | exact Nat.lt_trans (by assumption) (by assumption) | exact Nat.lt_of_lt_of_le (by assumption) (by assumption) | exact Nat.le_of_lt (by assumption) | exact Nat.lt_of_le_of_lt (by assumption) (by assumption) | exact rv1 (by assumption) (by assumption) | exact rv2 (by assumption) | exact cl1 (by assumption) (by assumption) | exact cl2 (by assumption) (by assumption) | exact cl3 (by assumption) | exact md1 (by assumption) (by assumption) | exact md2 (by assumption) (by assumption) | exact md3 (by assumption) | exact md4 (by assumption) (by assumption) | exact md5 (by assumption) | exact Nat.lt_succ_of_lt (by assumption) | exact Nat.lt_of_succ_lt (by assumption) | exact Nat.lt_succ_self _ | lia))
  · rw [e j hj', if_neg (by first | assumption | exact Nat.lt_trans (by assumption) (by assumption) | exact Nat.lt_of_lt_of_le (by assumption) (by assumption) | exact Nat.le_of_lt (by assumption) | exact Nat.lt_of_le_of_lt (by assumption) (by assumption) | exact rv1 (by assumption) (by assumption) | exact rv2 (by assumption) | exact cl1 (by assumption) (by assumption) | exact cl2 (by assumption) (by assumption) | exact cl3 (by assumption) | exact md1 (by assumption) (by assumption) | exact md2 (by assumption) (by assumption) | exact md3 (by assumption) | exact md4 (by assumption) (by assumption) | exact md5 (by assumption) | exact Nat.lt_succ_of_lt (by assumption) | exact Nat.lt_of_succ_lt (by assumption) | exact Nat.lt_succ_self _ | lia), if_neg (by first | assumption | exact Nat.lt_trans (by assumption) (by assumption) | exact Nat.lt_of_lt_of_le (by assumption) (by assumption) | exact Nat.le_of_lt (by assumption) | exact Nat.lt_of_le_of_lt (by assumption) (by assumption) | exact rv1 (by assumption) (by assumption) | exact rv2 (by assumption) | exact cl1 (by assumption) (by assumption) | exact cl2 (by assumption) (by assumption) | exact cl3 (by assumption) | exact md1 (by assumption) (by assumption) | exact md2 (by assumption) (by assumption) | exact md3 (by assumption) | exact md4 (by assumption) (by assumption) | exact md5 (by assumption) | exact Nat.lt_succ_of_lt (by assumption) | exact Nat.lt_of_succ_lt (by assumption) | exact Nat.lt_succ_self _ | lia)]; exact h.tail j (by first | assumption | exact Nat.lt_trans (by assumption) (by assumption) | exact Nat.lt_of_lt_of_le (by assumption) (by assumption) | exact Nat.le_of_lt (by assumption) | exact Nat.lt_of_le_of_lt (by assumption) (by assumption) | exact rv1 (by assumption) (by assumption) | exact rv2 (by assumption) | exact cl1 (by assumption) (by assumption) | exact cl2 (by assumption) (by assumption) | exact cl3 (by assumption) | exact md1 (by assumption) (by assumption) | exact md2 (by assumption) (by assumption) | exact md3 (by assumption) | exact md4 (by assumption) (by assumption) | exact md5 (by assumption) | exact Nat.lt_succ_of_lt (by assumption) | exact Nat.lt_of_succ_lt (by assumption) | exact Nat.lt_succ_self _ | lia) hj'
  · rw [e a (by first | assumption | exact Nat.lt_trans (by assumption) (by assumption) | exact Nat.lt_of_lt_of_le (by assumption) (by assumption) | exact Nat.le_of_lt (by assumption) | exact Nat.lt_of_le_of_lt (by assumption) (by assumption) | exact rv1 (by assumption) (by assumption) | exact rv2 (by assumption) | exact cl1 (by assumption) (by assumption) | exact cl2 (by assumption) (by assumption) | exact cl3 (by assumption) | exact md1 (by assumption) (by assumption) | exact md2 (by assumption) (by assumption) | exact md3 (by assumption) | exact md4 (by assumption) (by assumption) | exact md5 (by assumption) | exact Nat.lt_succ_of_lt (by assumption) | exact Nat.lt_of_succ_lt (by assumption) | exact Nat.lt_succ_self _ | lia), e b (by first | assumption | exact Nat.lt_trans (by assumption) (by assumption) | exact Nat.lt_of_lt_of_le (by assumption) (by assumption) | exact Nat.le_of_lt (by assumption) | exact Nat.lt_of_le_of_lt (by assumption) (by assumption) | exact rv1 (by assumption) (by assumption) | exact rv2 (by assumption) | exact cl1 (by assumption) (by assumption) | exact cl2 (by assumption) (by assumption) | exact cl3 (by assumption) | exact md1 (by assumption) (by assumption) | exact md2 (by assumption) (by assumption) | exact md3 (by assumption) | exact md4 (by assumption) (by assumption) | exact md5 (by assumption) | exact Nat.lt_succ_of_lt (by assumption) | exact Nat.lt_of_succ_lt (by assumption) | exact Nat.lt_succ_self _ | lia)]
    by_cases a1 : a < l
    · rw [if_neg (by first | assumption | exact Nat.lt_trans (by assumption) (by assumption) | exact Nat.lt_of_lt_of_le (by assumption) (by assumption) | exact Nat.le_of_lt (by assumption) | exact Nat.lt_of_le_of_lt (by assumption) (by assumption) | exact rv1 (by assumption) (by assumption) | exact rv2 (by assumption) | exact cl1 (by assumption) (by assumption) | exact cl2 (by assumption) (by assumption) | exact cl3 (by assumption) | exact md1 (by assumption) (by assumption) | exact md2 (by assumption) (by assumption) | exact md3 (by assumption) | exact md4 (by assumption) (by assumption) | exact md5 (by assumption) | exact Nat.lt_succ_of_lt (by assumption) | exact Nat.lt_of_succ_lt (by assumption) | exact Nat.lt_succ_self _ | lia), if_neg (by first | assumption | exact Nat.lt_trans (by assumption) (by assumption) | exact Nat.lt_of_lt_of_le (by assumption) (by assumption) | exact Nat.le_of_lt (by assumption) | exact Nat.lt_of_le_of_lt (by assumption) (by assumption) | exact rv1 (by assumption) (by assumption) | exact rv2 (by assumption) | exact cl1 (by assumption) (by assumption) | exact cl2 (by assumption) (by assumption) | exact cl3 (by assumption) | exact md1 (by assumption) (by assumption) | exact md2 (by assumption) (by assumption) | exact md3 (by assumption) | exact md4 (by assumption) (by assumption) | exact md5 (by assumption) | exact Nat.lt_succ_of_lt (by assumption) | exact Nat.lt_of_succ_lt (by assumption) | exact Nat.lt_succ_self _ | lia)]
      by_cases b1 : b = l
      · rw [if_pos b1]; exact .inr ⟨h1 a a1, h.low a (by first | assumption | exact Nat.lt_trans (by assumption) (by assumption) | exact Nat.lt_of_lt_of_le (by assumption) (by assumption) | exact Nat.le_of_lt (by assumption) | exact Nat.lt_of_le_of_lt (by assumption) (by assumption) | exact rv1 (by assumption) (by assumption) | exact rv2 (by assumption) | exact cl1 (by assumption) (by assumption) | exact cl2 (by assumption) (by assumption) | exact cl3 (by assumption) | exact md1 (by assumption) (by assumption) | exact md2 (by assumption) (by assumption) | exact md3 (by assumption) | exact md4 (by assumption) (by assumption) | exact md5 (by assumption) | exact Nat.lt_succ_of_lt (by assumption) | exact Nat.lt_of_succ_lt (by assumption) | exact Nat.lt_succ_self _ | lia)⟩
      · rw [if_neg b1]
        by_cases b2 : l < b ∧ b ≤ k
        · rw [if_pos b2]; exact h.ord _ _ (by first | assumption | exact Nat.lt_trans (by assumption) (by assumption) | exact Nat.lt_of_lt_of_le (by assumption) (by assumption) | exact Nat.le_of_lt (by assumption) | exact Nat.lt_of_le_of_lt (by assumption) (by assumption) | exact rv1 (by assumption) (by assumption) | exact rv2 (by assumption) | exact cl1 (by assumption) (by assumption) | exact cl2 (by assumption) (by assumption) | exact cl3 (by assumption) | exact md1 (by assumption) (by assumption) | exact md2 (by assumption) (by assumption) | exact md3 (by assumption) | exact md4 (by assumption) (by assumption) | exact md5 (by assumption) | exact Nat.lt_succ_of_lt (by assumption) | exact Nat.lt_of_succ_lt (by assumption) | exact Nat.lt_succ_self _ | lia) (by first | assumption | exact Nat.lt_trans (by assumption) (by assumption) | exact Nat.lt_of_lt_of_le (by assumption) (by assumption) | exact Nat.le_of_lt (by assumption) | exact Nat.lt_of_le_of_lt (by assumption) (by assumption) | exact rv1 (by assumption) (by assumption) | exact rv2 (by assumption) | exact cl1 (by assumption) (by assumption) | exact cl2 (by assumption) (by assumption) | exact cl3 (by assumption) | exact md1 (by assumption) (by assumption) | exact md2 (by assumption) (by assumption) | exact md3 (by assumption) | exact md4 (by assumption) (by assumption) | exact md5 (by assumption) | exact Nat.lt_succ_of_lt (by assumption) | exact Nat.lt_of_succ_lt (by assumption) | exact Nat.lt_succ_self _ | lia)
        · rw [if_neg b2]; exact h.ord _ _ hab (by first | assumption | exact Nat.lt_trans (by assumption) (by assumption) | exact Nat.lt_of_lt_of_le (by assumption) (by assumption) | exact Nat.le_of_lt (by assumption) | exact Nat.lt_of_le_of_lt (by assumption) (by assumption) | exact rv1 (by assumption) (by assumption) | exact rv2 (by assumption) | exact cl1 (by assumption) (by assumption) | exact cl2 (by assumption) (by assumption) | exact cl3 (by assumption) | exact md1 (by assumption) (by assumption) | exact md2 (by assumption) (by assumption) | exact md3 (by assumption) | exact md4 (by assumption) (by assumption) | exact md5 (by assumption) | exact Nat.lt_succ_of_lt (by assumption) | exact Nat.lt_of_succ_lt (by assumption) | exact Nat.lt_succ_self _ | lia)
    · by_cases a2 : a = l
      · rw [if_pos a2, if_neg (by first | assumption | exact Nat.lt_trans (by assumption) (by assumption) | exact Nat.lt_of_lt_of_le (by assumption) (by assumption) | exact Nat.le_of_lt (by assumption) | exact Nat.lt_of_le_of_lt (by assumption) (by assumption) | exact rv1 (by assumption) (by assumption) | exact rv2 (by assumption) | exact cl1 (by assumption) (by assumption) | exact cl2 (by assumption) (by assumption) | exact cl3 (by assumption) | exact md1 (by assumption) (by assumption) | exact md2 (by assumption) (by assumption) | exact md3 (by assumption) | exact md4 (by assumption) (by assumption) | exact md5 (by assumption) | exact Nat.lt_succ_of_lt (by assumption) | exact Nat.lt_of_succ_lt (by assumption) | exact Nat.lt_succ_self _ | lia), if_pos (by first | assumption | exact Nat.lt_trans (by assumption) (by assumption) | exact Nat.lt_of_lt_of_le (by assumption) (by assumption) | exact Nat.le_of_lt (by assumption) | exact Nat.lt_of_le_of_lt (by assumption) (by assumption) | exact rv1 (by assumption) (by assumption) | exact rv2 (by assumption) | exact cl1 (by assumption) (by assumption) | exact cl2 (by assumption) (by assumption) | exact cl3 (by assumption) | exact md1 (by assumption) (by assumption) | exact md2 (by assumption) (by assumption) | exact md3 (by assumption) | exact md4 (by assumption) (by assumption) | exact md5 (by assumption) | exact Nat.lt_succ_of_lt (by assumption) | exact Nat.lt_of_succ_lt (by assumption) | exact Nat.lt_succ_self _ | lia)]
        exact .inl (h2 _ (by first | assumption | exact Nat.lt_trans (by assumption) (by assumption) | exact Nat.lt_of_lt_of_le (by assumption) (by assumption) | exact Nat.le_of_lt (by assumption) | exact Nat.lt_of_le_of_lt (by assumption) (by assumption) | exact rv1 (by assumption) (by assumption) | exact rv2 (by assumption) | exact cl1 (by assumption) (by assumption) | exact cl2 (by assumption) (by assumption) | exact cl3 (by assumption) | exact md1 (by assumption) (by assumption) | exact md2 (by assumption) (by assumption) | exact md3 (by assumption) | exact md4 (by assumption) (by assumption) | exact md5 (by assumption) | exact Nat.lt_succ_of_lt (by assumption) | exact Nat.lt_of_succ_lt (by assumption) | exact Nat.lt_succ_self _ | lia) (by first | assumption | exact Nat.lt_trans (by assumption) (by assumption) | exact Nat.lt_of_lt_of_le (by assumption) (by assumption) | exact Nat.le_of_lt (by assumption) | exact Nat.lt_of_le_of_lt (by assumption) (by assumption) | exact rv1 (by assumption) (by assumption) | exact rv2 (by assumption) | exact cl1 (by assumption) (by assumption) | exact cl2 (by assumption) (by assumption) | exact cl3 (by assumption) | exact md1 (by assumption) (by assumption) | exact md2 (by assumption) (by assumption) | exact md3 (by assumption) | exact md4 (by assumption) (by assumption) | exact md5 (by assumption) | exact Nat.lt_succ_of_lt (by assumption) | exact Nat.lt_of_succ_lt (by assumption) | exact Nat.lt_succ_self _ | lia))
      · rw [if_neg a2, if_pos (by first | assumption | exact Nat.lt_trans (by assumption) (by assumption) | exact Nat.lt_of_lt_of_le (by assumption) (by assumption) | exact Nat.le_of_lt (by assumption) | exact Nat.lt_of_le_of_lt (by assumption) (by assumption) | exact rv1 (by assumption) (by assumption) | exact rv2 (by assumption) | exact cl1 (by assumption) (by assumption) | exact cl2 (by assumption) (by assumption) | exact cl3 (by assumption) | exact md1 (by assumption) (by assumption) | exact md2 (by assumption) (by assumption) | exact md3 (by assumption) | exact md4 (by assumption) (by assumption) | exact md5 (by assumption) | exact Nat.lt_succ_of_lt (by assumption) | exact Nat.lt_of_succ_lt (by assumption) | exact Nat.lt_succ_self _ | lia), if_neg (by first | assumption | exact Nat.lt_trans (by assumption) (by assumption) | exact Nat.lt_of_lt_of_le (by assumption) (by assumption) | exact Nat.le_of_lt (by assumption) | exact Nat.lt_of_le_of_lt (by assumption) (by assumption) | exact rv1 (by assumption) (by assumption) | exact rv2 (by assumption) | exact cl1 (by assumption) (by assumption) | exact cl2 (by assumption) (by assumption) | exact cl3 (by assumption) | exact md1 (by assumption) (by assumption) | exact md2 (by assumption) (by assumption) | exact md3 (by assumption) | exact md4 (by assumption) (by assumption) | exact md5 (by assumption) | exact Nat.lt_succ_of_lt (by assumption) | exact Nat.lt_of_succ_lt (by assumption) | exact Nat.lt_succ_self _ | lia), if_pos (by first | assumption | exact Nat.lt_trans (by assumption) (by assumption) | exact Nat.lt_of_lt_of_le (by assumption) (by assumption) | exact Nat.le_of_lt (by assumption) | exact Nat.lt_of_le_of_lt (by assumption) (by assumption) | exact rv1 (by assumption) (by assumption) | exact rv2 (by assumption) | exact cl1 (by assumption) (by assumption) | exact cl2 (by assumption) (by assumption) | exact cl3 (by assumption) | exact md1 (by assumption) (by assumption) | exact md2 (by assumption) (by assumption) | exact md3 (by assumption) | exact md4 (by assumption) (by assumption) | exact md5 (by assumption) | exact Nat.lt_succ_of_lt (by assumption) | exact Nat.lt_of_succ_lt (by assumption) | exact Nat.lt_succ_self _ | lia)]
        exact h.ord _ _ (by first | assumption | exact Nat.lt_trans (by assumption) (by assumption) | exact Nat.lt_of_lt_of_le (by assumption) (by assumption) | exact Nat.le_of_lt (by assumption) | exact Nat.lt_of_le_of_lt (by assumption) (by assumption) | exact rv1 (by assumption) (by assumption) | exact rv2 (by assumption) | exact cl1 (by assumption) (by assumption) | exact cl2 (by assumption) (by assumption) | exact cl3 (by assumption) | exact md1 (by assumption) (by assumption) | exact md2 (by assumption) (by assumption) | exact md3 (by assumption) | exact md4 (by assumption) (by assumption) | exact md5 (by assumption) | exact Nat.lt_succ_of_lt (by assumption) | exact Nat.lt_of_succ_lt (by assumption) | exact Nat.lt_succ_self _ | lia) (by first | assumption | exact Nat.lt_trans (by assumption) (by assumption) | exact Nat.lt_of_lt_of_le (by assumption) (by assumption) | exact Nat.le_of_lt (by assumption) | exact Nat.lt_of_le_of_lt (by assumption) (by assumption) | exact rv1 (by assumption) (by assumption) | exact rv2 (by assumption) | exact cl1 (by assumption) (by assumption) | exact cl2 (by assumption) (by assumption) | exact cl3 (by assumption) | exact md1 (by assumption) (by assumption) | exact md2 (by assumption) (by assumption) | exact md3 (by assumption) | exact md4 (by assumption) (by assumption) | exact md5 (by assumption) | exact Nat.lt_succ_of_lt (by assumption) | exact Nat.lt_of_succ_lt (by assumption) | exact Nat.lt_succ_self _ | lia)
theorem bin_runs (W : SWO lt) : ∀ (f : Nat) (p : Array Nat) (k : Nat), St lt N p k → k + f = N → Runs lt N (kas_bin f p k) (fun p' => St lt N p' N) := by
  intro f
  induction f with
  | zero => intro p k h hk; have : k = N := by lia
            subst this; exact h
  | succ f ih =>
    intro p k h hk
    refine Runs.bind (Runs.mono (fun l hl => ?_) (place_runs W h (by first | assumption | exact Nat.lt_trans (by assumption) (by assumption) | exact Nat.lt_of_lt_of_le (by assumption) (by assumption) | exact Nat.le_of_lt (by assumption) | exact Nat.lt_of_le_of_lt (by assumption) (by assumption) | exact rv1 (by assumption) (by assumption) | exact rv2 (by assumption) | exact cl1 (by assumption) (by assumption) | exact cl2 (by assumption) (by assumption) | exact cl3 (by assumption) | exact md1 (by assumption) (by assumption) | exact md2 (by assumption) (by assumption) | exact md3 (by assumption) | exact md4 (by assumption) (by assumption) | exact md5 (by assumption) | exact Nat.lt_succ_of_lt (by assumption) | exact Nat.lt_of_succ_lt (by assumption) | exact Nat.lt_succ_self _ | lia) k 0 k (by first | assumption | exact Nat.lt_trans (by assumption) (by assumption) | exact Nat.lt_of_lt_of_le (by assumption) (by assumption) | exact Nat.le_of_lt (by assumption) | exact Nat.lt_of_le_of_lt (by assumption) (by assumption) | exact rv1 (by assumption) (by assumption) | exact rv2 (by assumption) | exact cl1 (by assumption) (by assumption) | exact cl2 (by assumption) (by assumption) | exact cl3 (by assumption) | exact md1 (by assumption) (by assumption) | exact md2 (by assumption) (by assumption) | exact md3 (by assumption) | exact md4 (by assumption) (by assumption) | exact md5 (by assumption) | exact Nat.lt_succ_of_lt (by assumption) | exact Nat.lt_of_succ_lt (by assumption) | exact Nat.lt_succ_self _ | lia) (Nat.zero_le _) (Nat.le_refl _) (fun j hj => by lia) (fun j hj hj' => by lia)))
    exact ih _ (k + 1) (ins_st h (by first | assumption | exact Nat.lt_trans (by assumption) (by assumption) | exact Nat.lt_of_lt_of_le (by assumption) (by assumption) | exact Nat.le_of_lt (by assumption) | exact Nat.lt_of_le_of_lt (by assumption) (by assumption) | exact rv1 (by assumption) (by assumption) | exact rv2 (by assumption) | exact cl1 (by assumption) (by assumption) | exact cl2 (by assumption) (by assumption) | exact cl3 (by assumption) | exact md1 (by assumption) (by assumption) | exact md2 (by assumption) (by assumption) | exact md3 (by assumption) | exact md4 (by assumption) (by assumption) | exact md5 (by assumption) | exact Nat.lt_succ_of_lt (by assumption) | exact Nat.lt_of_succ_lt (by assumption) | exact Nat.lt_succ_self _ | lia) hl.1 hl.2.1 hl.2.2) (by first | assumption | exact Nat.lt_trans (by assumption) (by assumption) | exact Nat.lt_of_lt_of_le (by assumption) (by assumption) | exact Nat.le_of_lt (by assumption) | exact Nat.lt_of_le_of_lt (by assumption) (by assumption) | exact rv1 (by assumption) (by assumption) | exact rv2 (by assumption) | exact cl1 (by assumption) (by assumption) | exact cl2 (by assumption) (by assumption) | exact cl3 (by assumption) | exact md1 (by assumption) (by assumption) | exact md2 (by assumption) (by assumption) | exact md3 (by assumption) | exact md4 (by assumption) (by assumption) | exact md5 (by assumption) | exact Nat.lt_succ_of_lt (by assumption) | exact Nat.lt_of_succ_lt (by assumption) | exact Nat.lt_succ_self _ | lia)
theorem sort_runs (W : SWO lt) (hN : 1 ≤ N) : Runs lt N (kas_sort N) (fun p => St lt N p N) := by
  unfold kas_sort
  refine Runs.bind (Runs.mono (fun r hr => ?_) (count_runs W hN))
  obtain ⟨h, h1, h2⟩ := hr
  split
  · rw [Nat.max_eq_left h1]
    exact bin_runs W _ _ _ h (by first | assumption | exact Nat.lt_trans (by assumption) (by assumption) | exact Nat.lt_of_lt_of_le (by assumption) (by assumption) | exact Nat.le_of_lt (by assumption) | exact Nat.lt_of_le_of_lt (by assumption) (by assumption) | exact rv1 (by assumption) (by assumption) | exact rv2 (by assumption) | exact cl1 (by assumption) (by assumption) | exact cl2 (by assumption) (by assumption) | exact cl3 (by assumption) | exact md1 (by assumption) (by assumption) | exact md2 (by assumption) (by assumption) | exact md3 (by assumption) | exact md4 (by assumption) (by assumption) | exact md5 (by assumption) | exact Nat.lt_succ_of_lt (by assumption) | exact Nat.lt_of_succ_lt (by assumption) | exact Nat.lt_succ_self _ | lia)
  · have : r.1 = N := by lia
    rw [this] at h; exact h
end
end Mine
end

section
-- Items
open PySem PySem.W PyProof.Rows PySem.Calls PySem.Spec
set_option Elab.async false
set_option maxRecDepth 100000
namespace Mine
theorem slt_irr (a : Str) : slt a a = false := strKind.irrefl a.cps.toList
theorem slt_tr (a b c : Str) : slt a b = true → slt b c = true → slt a c = true := strKind.trans a.cps.toList b.cps.toList c.cps.toList
theorem slt_nt (a b c : Str) : slt a c = true → slt a b = true ∨ slt b c = true := strKind.negTrans a.cps.toList b.cps.toList c.cps.toList
theorem slt_total (a b : Str) (h1 : slt a b = false) (h2 : slt b a = false) : a = b := by
  have := strKind.total a.cps.toList b.cps.toList h1 h2
  cases a; cases b
  simp only [Str.mk.injEq]
  exact Array.toList_inj.mp this
structure It where
  key : Str
  ord : Int
  el : Str
noncomputable def ilt (x y : It) : Bool := klt x.key y.key x.ord y.ord
theorem ilt_iff {x y : It} : ilt x y = true ↔ slt x.key y.key = true ∨ (x.key = y.key ∧ x.ord < y.ord) := by
  unfold ilt klt
  by_cases h : x.key = y.key
  · rw [if_pos h, h, slt_irr]; simp
  · rw [if_neg h]; simp [h]
theorem ilt_irr (x : It) : ilt x x = false := by
  cases q : ilt x x with
  | false => rfl
  | true =>
    rcases ilt_iff.mp q with h | h
    · rw [slt_irr] at h; cases h
    · lia
theorem ilt_tr (x y z : It) (h1 : ilt x y = true) (h2 : ilt y z = true) : ilt x z = true := by
  rw [ilt_iff] at h1 h2 ⊢
  rcases h1 with a | ⟨a, a'⟩ <;> rcases h2 with b | ⟨b, b'⟩
  · exact .inl (slt_tr _ _ _ a b)
  · exact .inl (b ▸ a)
  · exact .inl (a ▸ b)
  · exact .inr ⟨a.trans b, by lia⟩
theorem ilt_nt (x y z : It) (h : ilt x z = true) : ilt x y = true ∨ ilt y z = true := by
  simp only [ilt_iff] at h ⊢
  rcases h with a | ⟨a, a'⟩
  · rcases slt_nt _ y.key _ a with b | b
    · exact .inl (.inl b)
    · exact .inr (.inl b)
  · by_cases b : x.key = y.key
    · by_cases c : x.ord < y.ord
      · exact .inl (.inr ⟨b, c⟩)
      · exact .inr (.inr ⟨b ▸ a, by lia⟩)
    · cases d : slt x.key y.key with
      | true => exact .inl (.inl rfl)
      | false =>
        cases e : slt y.key z.key with
        | true => exact .inr (.inl rfl)
        | false => rw [← a] at e; exact absurd (slt_total _ _ d e) b
theorem swo_of {f : Nat → It} : SWO (fun i j => ilt (f i) (f j)) := ⟨fun _ => ilt_irr _, fun _ _ _ => ilt_tr _ _ _, fun _ _ _ => ilt_nt _ _ _⟩
theorem swo_s {f : Nat → Str} : SWO (fun i j => slt (f i) (f j)) := ⟨fun _ => slt_irr _, fun _ _ _ => slt_tr _ _ _, fun _ _ _ => slt_nt _ _ _⟩
inductive TupIn (tl : List (Addr × Obj)) (v : Value) (x : It) : Prop
  | mk (a : Addr) (t1 t2 t3 : Tok) (n : Nat) (e : v = .ref a) (h : (a, tupObj [.str x.key t1, .int x.ord t2, .str x.el t3] n) ∈ tl) : TupIn tl v x
theorem TupIn.mono {tl tl' : List (Addr × Obj)} {v : Value} {x : It} (h : TupIn tl v x) (e : ∀ p ∈ tl, p ∈ tl') : TupIn tl' v x := by
  obtain ⟨a, t1, t2, t3, n, rfl, hm⟩ := h
  exact ⟨a, t1, t2, t3, n, rfl, e _ hm⟩
theorem ltok_tup {f : Value → It} {S : Value → Prop} {tl : List (Addr × Obj)} (h : ∀ v, S v → TupIn tl v (f v)) (hc : ∀ v w, S v → S w → (f v).ord = (f w).ord → (f v).el = (f w).el) : LtOk (fun v w => ilt (f v) (f w)) S tl := by
  intro x y hx hy prog w A E s Q hn hu hq
  obtain ⟨a, t1, t2, t3, n, rfl, ma⟩ := h x hx
  obtain ⟨b, u1, u2, u3, n', rfl, mb⟩ := h y hy
  exact tup_lt (hn _ ma) (hn _ mb) (fun _ e => hc _ _ hx hy e) hu hq
inductive LstIn (tl : List (Addr × Obj)) (v : Value) (k : Str) (i : Int) : Prop
  | mk (a : Addr) (t1 t2 : Tok) (n : Nat) (e : v = .ref a) (h : (a, listOf #[.str k t1, .int i t2] n) ∈ tl) : LstIn tl v k i
theorem ltok_lst {f : Value → It} {S : Value → Prop} {tl : List (Addr × Obj)} (h : ∀ v, S v → LstIn tl v (f v).key (f v).ord) : LtOk (fun v w => ilt (f v) (f w)) S tl := by
  intro x y hx hy prog w A E s Q hn hu hq
  obtain ⟨a, t1, t2, n, rfl, ma⟩ := h x hx
  obtain ⟨b, u1, u2, n', rfl, mb⟩ := h y hy
  exact lst_lt (hn _ ma) (hn _ mb) hu hq

section
variable {prog : Program} {w : World} {A : Around} {E : Value → Shared → Prop} {s : Shared} {h₀ : Heap} {L D : Addr} {m : Str → Option Value} {tl : List (Addr × Obj)} {vs : List Value} {n : Nat}
theorem ask_tup {a b : Addr} {x y : It} {t1 t2 t3 u1 u2 u3 : Tok} {n n' : Nat} {Q : Bool → Shared → Prop}
    (ha : s.heap.get? a = some (tupObj [.str x.key t1, .int x.ord t2, .str x.el t3] n)) (hb : s.heap.get? b = some (tupObj [.str y.key u1, .int y.ord u2, .str y.el u3] n'))
    (he : x.key = y.key → x.ord = y.ord → x.el = y.el) (h : Q (ilt x y) s) : wpAny (model prog w) A (keyLt' (tuples' true) (.ref a) (.ref b)) Q E s := by
  refine kat_lt ha rfl hb rfl ?_
  show KatLex prog w A true _ Q [(.str x.key t1, .str y.key u1), (.int x.ord t2, .int y.ord u2), (.str x.el t3, .str y.el u3)] 0 s
  refine kat_cons (wpAny_eqBool_str ?_)
  unfold ilt at h
  by_cases h1 : x.key = y.key
  · rw [decide_eq_true h1]
    refine kat_yes (kat_cons (wpAny_eqBool_int ?_))
    rw [h1, klt_eq] at h
    by_cases h2 : x.ord = y.ord
    · have e : (x.ord == y.ord) = true := by simpa using h2
      rw [e]
      refine kat_yes (kat_cons (wpAny_eqBool_str ?_))
      rw [decide_eq_true (he h1 h2)]
      refine kat_yes (kat_nil ?_)
      have e2 : decide (x.ord < y.ord) = false := by simp; lia
      rw [e2] at h
      simpa using h
    · have e : (x.ord == y.ord) = false := by simpa using h2
      rw [e]
      refine kat_no ?_
      show wpAny _ _ (oneLt' false _ _) _ _ _
      exact kat_one _ _ (rlt_int h)
  · rw [decide_eq_false h1]
    rw [klt_ne h1] at h
    refine kat_no ?_
    show wpAny _ _ (oneLt' true _ _) _ _ _
    exact oneLt_str h
theorem tups_of {h : Heap} {f : Value → It} : ∀ {vs : List Value}, (∀ v ∈ vs, ∃ a t1 t2 t3 n, v = .ref a ∧ h.get? a = some (tupObj [.str (f v).key t1, .int (f v).ord t2, .str (f v).el t3] n)) → ∃ fs, KatTups h vs fs ∧ fs.length = vs.length ∧ ∀ q ∈ fs, ∃ x t, q = .str x t
  | [], _ => ⟨[], trivial, rfl, fun _ h => nomatch h⟩
  | v :: r, hv => by
    obtain ⟨fs, h1, h2, h3⟩ := tups_of (vs := r) fun v hv' => hv v (.tail _ hv')
    obtain ⟨a, t1, t2, t3, n, e, ho⟩ := hv v (.head _)
    refine ⟨.str (f v).key t1 :: fs, ⟨⟨a, _, _, n, e, ho, rfl, rfl, rfl⟩, h1⟩, by simp [h2], fun q hq => ?_⟩
    rcases List.mem_cons.mp hq with rfl | hq
    · exact ⟨_, _, rfl⟩
    · exact h3 q hq
theorem looks_str {M : Model} {h : Heap} {x : Str} {t : Tok} : Looks M h (typeOf (.str x t)) (.type "str") := fun _ _ _ s _ q => wpAny_typeOf (typeIs_str s x t) q
theorem sort_tup {f : Value → It} {Q : Value → Shared → Prop} (F : Fr h₀ L s.heap m) (N : News h₀ L s.heap ((D, listOf vs.toArray n) :: tl)) (hD : ∀ p ∈ tl, p.1 ≠ D) (h2 : 2 ≤ vs.length) (h64 : vs.length < 64)
    (hf : ∀ v ∈ vs, TupIn tl v (f v)) (hc : ∀ v ∈ vs, ∀ u ∈ vs, (f v).ord = (f u).ord → (f v).el = (f u).el)
    (h : ∀ (p : Array Nat) n' h', St (fun i j => ilt (f (vs.getD i .none)) (f (vs.getD j .none))) vs.length p vs.length → Fr h₀ L h' m → News h₀ L h' ((D, listOf (p.toList.map fun i => vs.getD i .none).toArray n') :: tl) → Q .none { s with heap := h' }) :
    wpAny (model prog w) A (call (.builtin "list.sort") [.ref D]) Q E s := by
  refine kat_lsort (vs := vs) (g := fun o => (D, o) :: tl) F N (UpdF.head hD) rfl h2 h64 fun e1 h' F' N' => ?_
  have hh : ∀ v ∈ vs, ∃ a t1 t2 t3 n, v = .ref a ∧ h'.get? a = some (tupObj [.str (f v).key t1, .int (f v).ord t2, .str (f v).el t3] n) := fun v hv => by
    obtain ⟨a, t1, t2, t3, n, e, hm⟩ := hf v hv
    exact ⟨a, t1, t2, t3, n, e, (N' _ (.tail _ hm)).1⟩
  obtain ⟨fs, k1, k2, k3⟩ := tups_of hh
  refine kat_kind (T := .type "str") k1 (by lia) (fun v hv => by obtain ⟨x, t, rfl⟩ := k3 v hv; exact looks_str) rfl ?_
  show (kas_sort vs.length).kasWp (kas_ask prog w A.in1 (tuples' true) vs) _ _
  refine Runs.wp (I := fun s' => s' = { s with heap := h' }) (P := fun p => St (fun i j => ilt (f (vs.getD i .none)) (f (vs.getD j .none))) vs.length p vs.length) ?_ ?_ (sort_runs swo_of (by lia)) rfl
  · rintro i j C _ hi hj rfl hC
    obtain ⟨a, t1, t2, t3, na, ea, ma⟩ := hh _ (getD_mem hi)
    obtain ⟨b, u1, u2, u3, nb, eb, mb⟩ := hh _ (getD_mem hj)
    unfold kas_ask
    have hce := hc _ (getD_mem hi) _ (getD_mem hj)
    rw [ea, eb]
    rw [ea, eb] at hce hC
    rw [ea] at ma
    rw [eb] at mb
    exact ask_tup ma mb (fun _ e => hce e) (hC _ rfl)
  · rintro p _ hp rfl
    exact ⟨(D, seqObj "list" #[] e1) :: tl, fun o => (D, o) :: tl, F', N', UpdF.head hD, fun h'' c F'' N'' => h p c h'' hp F'' N''⟩
end
end Mine
end

section
-- SortB
open PySem PySem.W PyProof.Rows PySem.Calls PySem.Spec
set_option Elab.async false
set_option maxRecDepth 100000
namespace Mine
section
variable {prog : Program} {w : World} {A : Around} {E : Value → Shared → Prop} {s : Shared} {h₀ : Heap} {L D : Addr} {m : Str → Option Value} {tl : List (Addr × Obj)} {vs : List Value} {n : Nat}
theorem sort_tup_rev {f : Value → It} {Q : Value → Shared → Prop} (F : Fr h₀ L s.heap m) (N : News h₀ L s.heap ((D, listOf vs.toArray n) :: tl)) (hD : ∀ p ∈ tl, p.1 ≠ D) (h2 : 2 ≤ vs.length) (h64 : vs.length < 64)
    (hf : ∀ v ∈ vs, TupIn tl v (f v)) (hc : ∀ v ∈ vs, ∀ u ∈ vs, (f v).ord = (f u).ord → (f v).el = (f u).el)
    (h : ∀ (p : Array Nat) n' h', St (fun i j => ilt (f (vs.reverse.getD i .none)) (f (vs.reverse.getD j .none))) vs.length p vs.length → Fr h₀ L h' m → News h₀ L h' ((D, listOf (p.toList.map fun i => vs.reverse.getD i .none).reverse.toArray n') :: tl) → Q .none { s with heap := h' }) :
    wpAny (model prog w) A (call (.builtin "list.sort") [.ref D] [(Str.ofString "reverse", .bool true)]) Q E s := by
  have z := N _ (.head _)
  have ho : s.heap.get? D = some (seqObj "list" vs.toArray n) := z.1
  have N₀ : News h₀ L s.heap tl := fun p hp => N p (.tail _ hp)
  refine wpAny_call_entry_kw slot_list_sort ⟨_, z.1, rfl⟩ entry_list_sort ?_ (args_list_sort_rev _ _)
  have ha : D < s.heap.objs.size := Heap.lt_size ho
  have s1 := Heap.SameBut.update s.heap D (Obj.mapSeq fun _ => (#[] : Array Value))
  obtain ⟨e1, ho1⟩ : ∃ e1, (s.heap.update D (Obj.mapSeq fun _ => (#[] : Array Value))).get? D = some (seqObj "list" #[] e1) := ⟨_, get?_update_seq ho fun _ => #[]⟩
  have F3 : Fr h₀ L (((s.heap.update D (Obj.mapSeq fun _ => (#[] : Array Value))).push (seqObj "tuple" vs.toArray 0)).push (seqObj "list" #[] 0)) m := ((kas_fr F s1 z.2.1 z.2.2).push _).push _
  have N2 : News h₀ L (((s.heap.update D (Obj.mapSeq fun _ => (#[] : Array Value))).push (seqObj "tuple" vs.toArray 0)).push (seqObj "list" #[] 0)) tl :=
    (kas_news N₀ s1 hD).grown fun b x e => Heap.get?_push_of_some _ (Heap.get?_push_of_some _ e)
  have oD : (((s.heap.update D (Obj.mapSeq fun _ => (#[] : Array Value))).push (seqObj "tuple" vs.toArray 0)).push (seqObj "list" #[] 0)).get? D = some (seqObj "list" #[] e1) := Heap.get?_push_of_some _ (Heap.get?_push_of_some _ ho1)
  rw [list_sort_rev]
  refine wpAny_bind (listItems_at ho rfl ?_)
  refine wpAny_bind (listUpdate_at ho rfl ?_ (by rw [List.size_toArray, sizeLine_eq]; lia) (Nat.zero_le _))
  refine wpAny_bind (seqEpoch_at ho1 rfl ?_)
  refine wpAny_bind (wpAny_newTuple ?_ (by show vs.length ≤ _; rw [sizeLine_eq]; lia))
  refine wpAny_bind (wpAny_newList ?_ (Nat.zero_le _))
  refine wpAny_holding ?_
  generalize hH : ((s.heap.update D (Obj.mapSeq fun _ => (#[] : Array Value))).push (seqObj "tuple" vs.toArray 0)).push (seqObj "list" #[] 0) = H at F3 N2 oD
  show wpAny (model prog w) A.in1 _ _ E { s with heap := H }
  simp only [if_true]
  refine wpAny_bind (wpAny_rule ?_)
  have hn2 : ¬ vs.toArray.size < 2 := by rw [List.size_toArray]; lia
  rw [if_neg hn2, if_neg hn2]
  have hh : ∀ v ∈ vs, ∃ a t1 t2 t3 n, v = .ref a ∧ H.get? a = some (tupObj [.str (f v).key t1, .int (f v).ord t2, .str (f v).el t3] n) := fun v hv => by
    obtain ⟨a, t1, t2, t3, n, e, hm⟩ := hf v hv
    exact ⟨a, t1, t2, t3, n, e, (N2 _ hm).1⟩
  obtain ⟨fs, k1, k2, k3⟩ := tups_of hh
  refine wpAny_bind (kat_kind (T := .type "str") k1 (by lia) (fun v hv => by obtain ⟨x, t, rfl⟩ := k3 v hv; exact looks_str) rfl ?_)
  have hrev : (vs.toArray.zip vs.toArray).reverse = vs.reverse.toArray.zip vs.reverse.toArray := kat_pairs true rfl
  rw [hrev]
  show wpAny (model prog w) A.in1 ((sortRuns').run (SortSt.mk' (tuples' true) (vs.reverse.toArray.zip vs.reverse.toArray) #[] 7 none) >>= _) _ E _
  have hlen : vs.reverse.length = vs.length := List.length_reverse
  refine wpAny_bind (wpAny_mono (kat_run (ks := vs.reverse) (vs := vs.reverse) (Q := fun st' s' => s' = { s with heap := H } ∧ ∃ p : Array Nat, p.size = vs.length ∧ arrOf st' = p.map (kas_item (vs.reverse.toArray.zip vs.reverse.toArray)) ∧ failedOf st' = none ∧
      St (fun i j => ilt (f (vs.reverse.getD i .none)) (f (vs.reverse.getD j .none))) vs.length p vs.length)
    (G := fun p s' => s' = { s with heap := H } ∧ St (fun i j => ilt (f (vs.reverse.getD i .none)) (f (vs.reverse.getD j .none))) vs.length p vs.length)
    rfl (by lia) (by lia) (fun p' st' s' a1 a2 a3 a4 => ⟨a4.1, p', by rw [a1, hlen], a2, a3, a4.2⟩) ?_) ?_ fun _ _ e => e)
  · rw [hlen]
    refine Runs.wp (I := fun s' => s' = { s with heap := H }) (P := fun p => St (fun i j => ilt (f (vs.reverse.getD i .none)) (f (vs.reverse.getD j .none))) vs.length p vs.length) ?_ (fun p s' hp hs => ⟨hs, hp⟩) (sort_runs swo_of (by lia)) rfl
    rintro i j C _ hi hj rfl hC
    have mi : vs.reverse.getD i .none ∈ vs := List.mem_reverse.mp (getD_mem (by lia))
    have mj : vs.reverse.getD j .none ∈ vs := List.mem_reverse.mp (getD_mem (by lia))
    obtain ⟨a, t1, t2, t3, na, ea, ma⟩ := hh _ mi
    obtain ⟨b, u1, u2, u3, nb, eb, mb⟩ := hh _ mj
    unfold kas_ask
    have hce := hc _ mi _ mj
    rw [ea, eb]
    rw [ea, eb] at hce hC
    rw [ea] at ma
    rw [eb] at mb
    exact ask_tup ma mb (fun _ e => hce e) (hC _ rfl)
  · rintro ⟨⟨⟩, st'⟩ s' ⟨rfl, p, hp, har, hfl, hst⟩
    dsimp only at har hfl ⊢
    have hout := kat_snds rfl har
    rw [hout]
    have hsz : (List.toArray (p.toList.map fun i => vs.reverse.getD i Value.none)).size = vs.length := by rw [List.size_toArray, List.length_map, Array.length_toList, hp]
    have erev : (List.toArray (p.toList.map fun i => vs.reverse.getD i Value.none)).reverse = (p.toList.map fun i => vs.reverse.getD i Value.none).reverse.toArray := kat_outs true _
    rw [erev]
    have s2 := Heap.SameBut.update H D (Obj.mapSeq fun _ => (p.toList.map fun i => vs.reverse.getD i Value.none).reverse.toArray)
    obtain ⟨c2, hc2⟩ : ∃ c2, (H.update D (Obj.mapSeq fun _ => (p.toList.map fun i => vs.reverse.getD i Value.none).reverse.toArray)).get? D = some (seqObj "list" (p.toList.map fun i => vs.reverse.getD i Value.none).reverse.toArray c2) := ⟨_, get?_update_seq oD fun _ => (p.toList.map fun i => vs.reverse.getD i Value.none).reverse.toArray⟩
    refine wpAny_bind (seqEpoch_at oD rfl ?_)
    refine wpAny_bind (listUpdate_at oD rfl ?_ (Nat.zero_le _) (by rw [List.size_toArray, List.length_reverse, List.length_map, Array.length_toList, hp, sizeLine_eq]; lia))
    rw [hfl]
    simp only [bne_self_eq_false, Bool.false_eq_true, if_false]
    refine wpAny_pure ⟨_, rfl, h p c2 _ hst (kas_fr F3 s2 z.2.1 z.2.2) fun q hq => ?_⟩
    rcases List.mem_cons.mp hq with rfl | hq
    · exact ⟨hc2, z.2⟩
    · exact ⟨(s2.2 q.1 (hD q hq)).trans (N2 q hq).1, (N2 q hq).2⟩
end
end Mine
end

section
-- SortC
open PySem PySem.W PyProof.Rows PySem.Calls PySem.Spec
set_option Elab.async false
set_option maxRecDepth 100000
namespace Mine
/-- the key's call, from this frame, upon each of these values: a text; all that was made stands -/
noncomputable def KeyCall (prog : Program) (w : World) (A : Around) (h₀ : Heap) (L : Addr) (m : Str → Option Value) (f : Value) (K : Value → Str) (vs : List Value) : Prop :=
  ∀ v ∈ vs, ∀ (s : Shared) (news : List (Addr × Obj)) (Q : Value → Shared → Prop) (E : Value → Shared → Prop), Fr h₀ L s.heap m → News h₀ L s.heap news →
    (∀ t' h' tk', Fr h₀ L h' m → News h₀ L h' news → Q (.str (K v) t') { s with heap := h', toks := tk' }) → wpAny (model prog w) A (call f [v]) Q E s
section
variable {prog : Program} {w : World} {A : Around} {E : Value → Shared → Prop} {s : Shared} {h₀ : Heap} {L D : Addr} {m : Str → Option Value} {vs : List Value} {n : Nat} {K : Value → Str} {f : Value}
theorem KeyCall.of_in1 (h : KeyCall prog w A.in1 h₀ L m f K vs) : KeyCall prog w A h₀ L m f K vs := fun v hv s news Q E F N k => wpAny_of_in1 (h v hv s news Q E F N k)
noncomputable def KeysAre (K : Value → Str) : List Value → List Value → Prop
  | [], [] => True
  | v :: vs, k :: ks => (∃ t, k = .str (K v) t) ∧ KeysAre K vs ks
  | _, _ => False
theorem KeysAre.snoc {v : Value} {t : Tok} : ∀ {vs ks : List Value}, KeysAre K vs ks → KeysAre K (vs ++ [v]) (ks ++ [.str (K v) t])
  | [], [], _ => ⟨⟨t, rfl⟩, trivial⟩
  | _ :: _, _ :: _, h => ⟨h.1, h.2.snoc⟩
theorem KeysAre.length : ∀ {vs ks : List Value}, KeysAre K vs ks → ks.length = vs.length
  | [], [], _ => rfl
  | _ :: _, _ :: _, h => by simp [h.2.length]
theorem KeysAre.get : ∀ {vs ks : List Value} {i : Nat}, KeysAre K vs ks → i < vs.length → ∃ t, ks.getD i .none = .str (K (vs.getD i .none)) t
  | _ :: _, _ :: _, 0, h, _ => h.1
  | _ :: _, _ :: _, i + 1, h, hi => by simpa using h.2.get (i := i) (by simpa using hi)
theorem KeysAre.append : ∀ {vs ks us ls : List Value}, KeysAre K vs ks → KeysAre K us ls → KeysAre K (vs ++ us) (ks ++ ls)
  | [], [], _, _, _, h => h
  | _ :: _, _ :: _, _, _, h, h' => ⟨h.1, h.2.append h'⟩
theorem KeysAre.reverse : ∀ {vs ks : List Value}, KeysAre K vs ks → KeysAre K vs.reverse ks.reverse
  | [], [], _ => trivial
  | v :: vs, k :: ks, h => by
    obtain ⟨t, rfl⟩ := h.1
    rw [List.reverse_cons, List.reverse_cons]
    exact h.2.reverse.snoc
theorem KeysAre.rev {b : Bool} {ks : List Value} (h : KeysAre K vs ks) : KeysAre K (katRev b vs) (katRev b ks) := by
  cases b with
  | false => exact h
  | true => exact h.reverse
theorem KeysAre.mem : ∀ {vs ks : List Value}, KeysAre K vs ks → ∀ q ∈ ks, ∃ x t, q = .str x t
  | [], [], _, _, h => nomatch h
  | _ :: _, _ :: _, h, q, hq => by
    rcases List.mem_cons.mp hq with rfl | hq
    · obtain ⟨t, e⟩ := h.1; exact ⟨_, t, e⟩
    · exact h.2.mem q hq
theorem keys_all {kS : Addr} {tl : List (Addr × Obj)} {Fin : List Value → Nat → Shared → Prop} (hkS : ∀ p ∈ tl, p.1 ≠ kS) :
    ∀ (r pre ks : List Value) (e : Nat) (s : Shared), KeyCall prog w A h₀ L m f K r → KeysAre K pre ks → Fr h₀ L s.heap m → News h₀ L s.heap ((kS, seqObj "list" (List.toArray ks) e) :: tl) →
      (∀ ks' e' h' tk', KeysAre K (pre ++ r) ks' → Fr h₀ L h' m → News h₀ L h' ((kS, seqObj "list" (List.toArray ks') e') :: tl) → Fin ks' e' { s with heap := h', toks := tk' }) →
      KatKeys prog w A h₀ L m kS f Fin r ks e s
  | [], pre, ks, e, s, _, hk, F, N, fin => KatKeys.nil (fin ks e s.heap s.toks (by simpa using hk) F N)
  | v :: r, pre, ks, e, s, hc, hk, F, N, fin => by
    refine KatKeys.cons (hc v (.head _) s _ _ _ F N fun t' h' tk' F' N' => ?_)
    refine KatBack.intro (g := fun o => (kS, o) :: tl) F' N' (UpdF.head hkS) fun h'' c F'' N'' => ?_
    refine keys_all hkS r (pre ++ [v]) _ c _ (fun u hu => hc u (.tail _ hu)) hk.snoc F'' N'' fun ks' e' h3 tk3 a b c => ?_
    exact fin ks' e' h3 tk3 (by simpa using a) b c
theorem sorted_key {R : Addr} {nR : Nat} {b : Bool} {kw : List (Str × Value)} {news : List (Addr × Obj)} {Q : Value → Shared → Prop} (F : Fr h₀ L s.heap m) (N : News h₀ L s.heap news) (hR : (R, listOf vs.toArray nR) ∈ news) (h2 : 2 ≤ vs.length) (h64 : vs.length < 64)
    (ha1 : argsOk "sorted" ⟨[.ref R], kw⟩) (ha2 : ∀ x, argsOk "list.sort" ⟨[.ref x], kw⟩) (ht : ∀ x, Builtin.«list.sort» ⟨[.ref x], kw⟩ = ksk_tree x f b)
    (hc : KeyCall prog w A.in1.in1 h₀ L m f K vs)
    (h : ∀ (p : Array Nat) D n' h' tk', St (fun i j => slt (K ((katRev b vs).getD i .none)) (K ((katRev b vs).getD j .none))) vs.length p vs.length → Fr h₀ L h' m → News h₀ L h' ((D, listOf (katRev b (p.toList.map fun i => (katRev b vs).getD i .none)).toArray n') :: news) → (∀ q ∈ news, q.1 ≠ D) → Q (.ref D) { s with heap := h', toks := tk' }) :
    wpAny (model prog w) A (call (.builtin "sorted") [.ref R] kw) Q E s := by
  refine kat_sortedK (vs := vs) (b := b) (f := f) F N (PySem.IsL.isList (n := nR) (N _ hR).1) h2 h64 ha1 ha2 ht fun D kS e1 h' F' N' hDk hnD => ?_
  have offD : ∀ q ∈ news, q.1 ≠ D := fun q hq => Nat.ne_of_lt (hnD q hq)
  have offk : ∀ p ∈ (D, seqObj "list" #[] e1) :: news, p.1 ≠ kS := fun p hp => by
    rcases List.mem_cons.mp hp with rfl | hp
    · exact Nat.ne_of_lt hDk
    · exact Nat.ne_of_lt (Nat.lt_trans (hnD p hp) hDk)
  refine keys_all offk vs [] [] 0 _ hc trivial F' N' fun ks e h'' tk'' hks F'' N'' => ?_
  rw [List.nil_append] at hks
  have hkl := hks.length
  refine kas_kind (T := .type "str") (by omega) (fun v hv => by obtain ⟨x, t, rfl⟩ := hks.mem v hv; exact looks_str) rfl rfl ?_
  have hkr := hks.rev (b := b)
  refine Runs.wp (I := fun s' => s' = { s with heap := h'', toks := tk'' }) (P := fun p => St (fun i j => slt (K ((katRev b vs).getD i .none)) (K ((katRev b vs).getD j .none))) vs.length p vs.length) ?_ ?_ (sort_runs swo_s (by omega)) rfl
  · rintro i j C _ hi hj rfl hC
    obtain ⟨t1, g1⟩ := hkr.get (i := i) (by rw [kat_len]; exact hi)
    obtain ⟨t2, g2⟩ := hkr.get (i := j) (by rw [kat_len]; exact hj)
    unfold kas_ask
    rw [g1, g2]
    exact kas_lt_str (hC _ rfl)
  · rintro p _ hp rfl
    refine ⟨_, fun o => (kS, o) :: (D, seqObj "list" #[] e1) :: news, F'', N'', UpdF.head offk, fun h3 c F3 N3 => ?_⟩
    refine ⟨(D, seqObj "list" #[] e1) :: news, fun o => (D, o) :: news, F3, fun q hq => N3 q (.tail _ hq), UpdF.head offD, fun h4 c4 F4 N4 => ?_⟩
    exact h p D c4 h4 _ hp F4 N4 offD
end
end Mine
end

section
-- SortD
open PySem PySem.W PyProof.Rows PySem.Calls PySem.Spec
set_option Elab.async false
set_option maxRecDepth 100000
namespace Mine
section
variable {prog : Program} {w : World} {A : Around} {E : Value → Shared → Prop} {s : Shared} {h₀ : Heap} {L D : Addr} {m : Str → Option Value} {n : Nat} {f : Value}
theorem tree_nil {a : Addr} {b : Bool} {n : Nat} {tl : List (Addr × Obj)} {P : PySem.Fin → Shared → Prop} (F : Fr h₀ L s.heap m) (N : News h₀ L s.heap ((a, seqObj "list" #[] n) :: tl)) (ha : ∀ p ∈ tl, p.1 ≠ a)
    (h : ∀ c h', Fr h₀ L h' m → News h₀ L h' ((a, listOf ([] : List Value).toArray c) :: tl) → P (.done (.ret .none)) { s with heap := h' }) : wpAny (model prog w) A (ksk_tree a f b) P E s := by
  have z := N _ (.head _)
  unfold ksk_tree
  refine wpAny_bind (listItems_at z.1 rfl ?_)
  have s1 := Heap.SameBut.update s.heap a (Obj.mapSeq fun _ => (#[] : Array Value))
  obtain ⟨e1, ho1⟩ : ∃ e1, (s.heap.update a (Obj.mapSeq fun _ => (#[] : Array Value))).get? a = some (seqObj "list" #[] e1) := ⟨_, get?_update_seq z.1 fun _ => #[]⟩
  refine wpAny_bind (listUpdate_at z.1 rfl ?_ (Nat.zero_le _) (Nat.zero_le _))
  refine wpAny_bind (seqEpoch_at ho1 rfl ?_)
  refine wpAny_bind (wpAny_newTuple ?_ (Nat.zero_le _))
  refine wpAny_bind (wpAny_newList ?_ (Nat.zero_le _))
  refine wpAny_holding ?_
  have F1 := kas_fr F s1 z.2.1 z.2.2
  have N1 := news_same N s1 ha ho1
  have F3 := (F1.push (seqObj "tuple" #[] 0)).push (seqObj "list" #[] 0)
  have N3 := News.push (F1.push (seqObj "tuple" #[] 0)) (N1.grown fun b x e => Heap.get?_push_of_some (seqObj "tuple" #[] 0) e) (seqObj "list" #[] 0)
  generalize hk : ((s.heap.update a (Obj.mapSeq fun _ => (#[] : Array Value))).push (seqObj "tuple" #[] 0)).objs.size = kS at N3
  generalize hH : ((s.heap.update a (Obj.mapSeq fun _ => (#[] : Array Value))).push (seqObj "tuple" #[] 0)).push (seqObj "list" #[] 0) = H at F3 N3
  have hak : a ≠ kS := by
    have q : a < s.heap.objs.size := Heap.lt_size z.1
    rw [← hk, Heap.size_push, Heap.size_update]; exact Nat.ne_of_lt (Nat.lt_succ_of_lt q)
  show wpAny (model prog w) A (ksk_rest a f b #[] e1 (.ref kS)) P E { s with heap := H }
  unfold ksk_rest
  refine wpAny_bind (wpAny_rule ?_)
  refine wpAny_bind (wpAny_pure ?_)
  have zk := N3 _ (.head _)
  refine wpAny_bind (listItems_at zk.1 rfl ?_)
  have fin : ∀ (st : SortSt), (arrOf st).map (·.2) = #[] → failedOf st = none → wpAny (model prog w) A (ksk_tail a b e1 (.ref kS) st) P E { s with heap := H } := fun st e0 hf => by
    refine kat_tail (h₀ := h₀) (L := L) (m := m) (ks := []) (e := 0) (out := []) (by rw [e0]) (by simp) (by simp) hf ?_
    refine ⟨_, fun o => (kS, o) :: (a, seqObj "list" #[] e1) :: tl, F3, N3, UpdF.head (fun p hp => ?_), fun h4 c4 F4 N4 => ?_⟩
    · rcases List.mem_cons.mp hp with rfl | hp
      · exact hak
      · have q : p.1 < s.heap.objs.size := Heap.lt_size (N p (.tail _ hp)).1
        rw [← hk, Heap.size_push, Heap.size_update]; exact Nat.ne_of_lt (Nat.lt_succ_of_lt q)
    · refine ⟨(a, seqObj "list" #[] e1) :: tl, fun o => (a, o) :: tl, F4, fun q hq => N4 q (.tail _ hq), UpdF.head ha, fun h5 c5 F5 N5 => ?_⟩
      cases b with
      | false => exact h c5 h5 F5 N5
      | true => exact h c5 h5 F5 N5
  unfold ksk_end
  cases b with
  | false =>
    refine wpAny_bind (wpAny_pure ?_)
    refine wpAny_bind (wpAny_pure ?_)
    exact fin _ (by show Array.map (·.2) (if false = true then ((#[] : Array Value).zip (#[] : Array Value)).reverse else (#[] : Array Value).zip (#[] : Array Value)) = #[]; simp) rfl
  | true =>
    refine wpAny_bind (wpAny_rule ?_)
    refine wpAny_bind (wpAny_pure ?_)
    refine wpAny_bind (wpAny_pure ?_)
    exact fin _ (by show Array.map (·.2) (if true = true then ((#[] : Array Value).zip (#[] : Array Value)).reverse else (#[] : Array Value).zip (#[] : Array Value)) = #[]; simp) rfl
theorem sorted_nil {R : Addr} {nR : Nat} {b : Bool} {kw : List (Str × Value)} {news : List (Addr × Obj)} {Q : Value → Shared → Prop} (F : Fr h₀ L s.heap m) (N : News h₀ L s.heap news) (hR : (R, listOf ([] : List Value).toArray nR) ∈ news)
    (ha1 : argsOk "sorted" ⟨[.ref R], kw⟩) (ha2 : ∀ x, argsOk "list.sort" ⟨[.ref x], kw⟩) (ht : ∀ x, Builtin.«list.sort» ⟨[.ref x], kw⟩ = ksk_tree x f b)
    (h : ∀ D n' h', Fr h₀ L h' m → News h₀ L h' ((D, listOf ([] : List Value).toArray n') :: news) → (∀ q ∈ news, q.1 ≠ D) → Q (.ref D) { s with heap := h' }) :
    wpAny (model prog w) A (call (.builtin "sorted") [.ref R] kw) Q E s := by
  refine call_function_entry_kw kind_sorted plain_sorted entry_sorted ha1 ?_
  unfold Builtin.«sorted»
  refine wpAny_bind (m := checkCount "sorted" 1 1 _) (wpAny_pure ?_)
  refine wpAny_bind (collect_list (PySem.IsL.isList (n := nR) (N _ hR).1) ?_ (Nat.zero_le _))
  refine wpAny_bind (wpAny_newList ?_ (Nat.zero_le _))
  have keep1 : ∀ b o, s.heap.get? b = some o → ((s.heap.push (seqObj "list" #[] 0)).update s.heap.objs.size (Obj.mapSeq (· ++ ([] : List Value).toArray))).get? b = some o := fun b o q => by
    have hlt : b < s.heap.objs.size := Heap.lt_size q
    rw [Heap.get?_update_ne _ _ _ _ (Nat.ne_of_lt hlt), Heap.get?_push_ne _ _ _ (Nat.ne_of_lt hlt)]
    exact q
  have F1 : Fr h₀ L ((s.heap.push (seqObj "list" #[] 0)).update s.heap.objs.size (Obj.mapSeq (· ++ ([] : List Value).toArray))) m := F.keeps keep1
  have N1 : News h₀ L ((s.heap.push (seqObj "list" #[] 0)).update s.heap.objs.size (Obj.mapSeq (· ++ ([] : List Value).toArray))) news := N.grown keep1
  have F2 := F1.push (seqObj "list" #[] 0)
  have N2 := News.push F1 N1 (seqObj "list" #[] 0)
  have off : ∀ q ∈ news, q.1 ≠ ((s.heap.push (seqObj "list" #[] 0)).update s.heap.objs.size (Obj.mapSeq (· ++ ([] : List Value).toArray))).objs.size := fun q hq => Nat.ne_of_lt (Heap.lt_size (N1 q hq).1)
  generalize ((s.heap.push (seqObj "list" #[] 0)).update s.heap.objs.size (Obj.mapSeq (· ++ ([] : List Value).toArray))) = H at F2 N2 off
  refine wpAny_bind (wpAny_holding (wpAny_call_entry_kw slot_list_sort ⟨_, (N2 _ (.head _)).1, rfl⟩ entry_list_sort ?body (ha2 _)))
  case body =>
    have ht' := ht H.objs.size
    show wpAny (model prog w) A.in1.in1 (Builtin.«list.sort» ⟨[.ref H.objs.size], kw⟩) _ _ { s with heap := H.push (seqObj "list" #[] 0) }
    rw [ht']
    exact tree_nil (s := { s with heap := H.push (seqObj "list" #[] 0) }) F2 N2 off fun c h' F' N' => ⟨_, rfl, wpAny_pure ⟨_, rfl, h _ c h' F' N' off⟩⟩
end
end Mine
end

section
-- MinR
open PySem PySem.W PyProof.Rows PySem.Calls PySem.Spec
set_option Elab.async false
set_option maxRecDepth 100000
namespace Mine
section
variable {prog : Program} {w : World} {A : Around} {E : Value → Shared → Prop} {s : Shared} {h₀ : Heap} {L l q I S : Addr} {m : Str → Option Value} {news : List (Addr × Obj)} {vs : List Value} {R : Result → Shared → Prop} {Q : Value → Shared → Prop} {K : Value → Str} {d : Value}
/-- the first of the least (by lt) of the first j -/
noncomputable def IsBest (lt : Str → Str → Bool) (K : Value → Str) (vs : List Value) (j i : Nat) : Prop :=
  i < j ∧ (∀ k, k < j → lt (K (vs.getD k .none)) (K (vs.getD i .none)) = false) ∧ ∀ k, k < i → lt (K (vs.getD i .none)) (K (vs.getD k .none)) = true
noncomputable def Bst (lt : Str → Str → Bool) (K : Value → Str) (vs : List Value) (j : Nat) (best : Array Value) : Prop :=
  (j = 0 ∧ best = #[]) ∨ ∃ i t, best = #[vs.getD i .none, .str (K (vs.getD i .none)) t] ∧ IsBest lt K vs j i
theorem sle_tr {a b c : Str} (h1 : slt a b = true) (h2 : slt c b = false) : slt c a = false := by
  cases q : slt c a with
  | false => rfl
  | true => rw [slt_tr _ _ _ q h1] at h2; cases h2
theorem slt_le {a b c : Str} (h1 : slt a b = true) (h2 : slt c b = false) : slt a c = true := by
  rcases slt_nt a c b h1 with z | z
  · exact z
  · rw [z] at h2; cases h2
noncomputable def sgt (a b : Str) : Bool := slt b a
theorem rgt_str {x y : Str} {t u : Tok} {Q : Value → Shared → Prop} (h : Q (.bool (sgt x y)) s) : wpAny (model prog w) A (richCompare .Gt (.str x t) (.str y u)) Q E s :=
  PySem.P.gt_str (x := x) (y := y) (t := t) (u := u) h
theorem sge_tr {a b c : Str} (h1 : sgt a b = true) (h2 : sgt c b = false) : sgt c a = false := by
  unfold sgt at *
  cases q : slt a c with
  | false => rfl
  | true => rw [slt_tr _ _ _ h1 q] at h2; cases h2
theorem sgt_ge {a b c : Str} (h1 : sgt a b = true) (h2 : sgt c b = false) : sgt a c = true := by
  unfold sgt at *
  rcases slt_nt b c a h1 with z | z
  · rw [z] at h2; cases h2
  · exact z
theorem argsOk_min_dk (a v u : Value) : argsOk "min" ⟨[a], [(Str.ofString "default", v), (Str.ofString "key", u)]⟩ := by unfold argsOk; kernel_rfl
theorem min_loop (hh : A.handled = none) (hl : ∀ h, Fr h₀ L h m → News h₀ L h news → h.IsList l vs.toArray) (hSI : S ≠ I) (hnS : ∀ p ∈ news, p.1 ≠ S) (hnI : ∀ p ∈ news, p.1 ≠ I)
    (hc : KeyCall prog w A.in1 h₀ L m (.ref q) K vs)
    (hR0 : vs = [] → ∀ h' tk', Fr h₀ L h' m → News h₀ L h' news → R (.ok (.ret d)) { s with heap := h', toks := tk' })
    (hR : ∀ i h' tk', IsBest slt K vs vs.length i → Fr h₀ L h' m → News h₀ L h' news → R (.ok (.ret (vs.getD i .none))) { s with heap := h', toks := tk' }) :
    ∀ (r j : Nat) (h : Heap) (tk : Nat) (best : Array Value) (c : Nat) (oI : Obj), vs.length - j = r → j ≤ vs.length → Fr h₀ L h m →
      News h₀ L h ((I, oI) :: (S, seqObj "list" best c) :: news) → LIt oI l j → Bst slt K vs j best →
      codeAny (model prog w) A (.builtin "min.loop" ⟨[.ref I, .ref q, .ref S], [(Str.ofString "default", d)]⟩) R { s with heap := h, toks := tk } := by
  have hname : (toString "min" ++ toString ".loop" : String) = "min.loop" := by decide
  intro r
  induction r with
  | zero =>
    intro j h tk best c oI hr hj F N hit hb
    have hin : j = vs.length := by lia
    have nS := N (S, seqObj "list" best c) (.tail _ (.head _))
    refine codeAny_builtin PySem.F.entry_min_loop ?_
    rw [Around.under_plainId PySem.F.plain_min_loop _]
    show wpAny _ A.in1 (seqItems? (.ref S) >>= _) _ _ _
    refine wpAny_bind (wpAny_seqItems nS.1 rfl ?_)
    show wpAny _ A.in1 (tryCatch (pyNext (.ref I)) _ >>= _) _ _ _
    have offI : ∀ p ∈ (S, seqObj "list" best c) :: news, p.1 ≠ I := fun p hp => by
      rcases List.mem_cons.mp hp with rfl | hp
      · exact hSI
      · exact hnI p hp
    refine wpAny_bind (wpAny_tryCatch (next_list_end (its := vs) hh F N hit offI (hl h F fun p hp => N p (.tail _ (.tail _ hp))) (by simp; lia) fun h' F' N' => ?_))
    have nS' := N' _ (.head _)
    have Nn : News h₀ L h' news := fun p hp => N' p (.tail _ hp)
    rcases hb with ⟨hj0, rfl⟩ | ⟨i, t, rfl, hi⟩
    · show wpAny _ A.in1 (rule _ >>= _) _ _ _
      refine wpAny_bind (wpAny_rule (wpAny_pure ?_))
      exact hR0 (List.length_eq_zero_iff.mp (by lia)) _ _ F' Nn
    · have s1 := Heap.SameBut.update h' S (Obj.mapSeq fun _ => (#[] : Array Value))
      show wpAny _ A.in1 (updateSeq S (fun _ => #[]) >>= _) _ _ _
      refine wpAny_bind ?_
      refine wpAny_updateSeq nS'.1 rfl (wpAny_bind (wpAny_letGo (wpAny_pure ?_)))
      rw [hin] at hi
      exact hR i _ _ hi (ksk_fr F' s1 nS'.2.1 nS'.2.2) (ksk_news Nn s1 hnS)
  | succ r ih =>
    intro j h tk best c oI hr hj F N hit hb
    have hlt : j < vs.length := by lia
    have nS := N (S, seqObj "list" best c) (.tail _ (.head _))
    refine codeAny_builtin PySem.F.entry_min_loop ?_
    rw [Around.under_plainId PySem.F.plain_min_loop _]
    show wpAny _ A.in1 (seqItems? (.ref S) >>= _) _ _ _
    refine wpAny_bind (wpAny_seqItems nS.1 rfl ?_)
    show wpAny _ A.in1 (tryCatch (pyNext (.ref I)) _ >>= _) _ _ _
    have offI : ∀ p ∈ (S, seqObj "list" best c) :: news, p.1 ≠ I := fun p hp => by
      rcases List.mem_cons.mp hp with rfl | hp
      · exact hSI
      · exact hnI p hp
    refine wpAny_bind (wpAny_tryCatch (next_list (its := vs) (x := vs.getD j .none) F N hit offI (hl h F fun p hp => N p (.tail _ (.tail _ hp))) (by simp [List.getD, hlt]) fun h' o' F' N' hit' => ?_))
    show wpAny _ A.in1 (tryCatch (holding [vs.getD j .none] (call (.ref q) [vs.getD j .none])) _ >>= _) _ _ _
    refine wpAny_bind (wpAny_tryCatch (wpAny_holding (hc _ (getD_mem hlt) _ _ _ _ F' N' fun t2 h2 tk2 F2 N2 => ?_)))
    have nS2 := N2 (S, seqObj "list" best c) (.tail _ (.head _))
    have nI2 := N2 (I, o') (.head _)
    have upd : ∀ (c2 : Nat) (h3 : Heap), Heap.SameBut S h2 h3 → h3.get? S = some (seqObj "list" #[vs.getD j .none, .str (K (vs.getD j .none)) t2] c2) → News h₀ L h3 ((I, o') :: (S, seqObj "list" #[vs.getD j .none, .str (K (vs.getD j .none)) t2] c2) :: news) := fun c2 h3 s1 hc2 p hp => by
      rcases List.mem_cons.mp hp with rfl | hp
      · exact ⟨(s1.2 I hSI.symm).trans nI2.1, nI2.2⟩
      · rcases List.mem_cons.mp hp with rfl | hp
        · exact ⟨hc2, nS2.2⟩
        · exact ⟨(s1.2 _ (hnS p hp)).trans (N2 p (.tail _ (.tail _ hp))).1, (N2 p (.tail _ (.tail _ hp))).2⟩
    have s1 := Heap.SameBut.update h2 S (Obj.mapSeq fun _ => #[vs.getD j .none, .str (K (vs.getD j .none)) t2])
    obtain ⟨c2, hc2⟩ : ∃ c2, (h2.update S (Obj.mapSeq fun _ => #[vs.getD j .none, .str (K (vs.getD j .none)) t2])).get? S = some (seqObj "list" #[vs.getD j .none, .str (K (vs.getD j .none)) t2] c2) := ⟨_, get?_update_seq nS2.1 fun _ => #[vs.getD j .none, .str (K (vs.getD j .none)) t2]⟩
    rcases hb with ⟨hj0, rfl⟩ | ⟨i, t, rfl, hi⟩
    · show wpAny _ A.in1 (updateSeq S (fun _ => #[vs.getD j .none, .str (K (vs.getD j .none)) t2]) >>= _) _ _ _
      refine wpAny_bind ?_
      refine wpAny_updateSeq nS2.1 rfl ?_
      rw [hname]
      refine wpAny_pure ⟨plainId_quiet PySem.F.plain_min_loop _, ih (j + 1) _ _ _ c2 o' (by lia) hlt (ksk_fr F2 s1 nS2.2.1 nS2.2.2) (upd c2 _ s1 hc2) hit' (.inr ⟨j, t2, rfl, by lia, fun k hk => ?_, fun k hk => by lia⟩)⟩
      have : k = j := by lia
      subst this; exact slt_irr _
    · show wpAny _ A.in1 (tryCatch (holding [vs.getD j .none, .str (K (vs.getD j .none)) t2] (richCompare .Lt (.str (K (vs.getD j .none)) t2) (.str (K (vs.getD i .none)) t) >>= _)) _ >>= _) _ _ _
      refine wpAny_bind (wpAny_tryCatch (wpAny_holding (wpAny_bind (rlt_str ?_))))
      refine wpAny_bind (wpAny_holding (wpAny_truthy_bool ?_))
      refine wpAny_bind (wpAny_letGo (wpAny_pure ?_))
      obtain ⟨hij, hb1, hb2⟩ := hi
      cases hbt : slt (K (vs.getD j .none)) (K (vs.getD i .none)) with
      | true =>
        have hbt' := hbt
        simp only [hbt, if_true]
        refine wpAny_bind ?_
        refine wpAny_updateSeq nS2.1 rfl (wpAny_bind (wpAny_letGo ?_))
        rw [hname]
        refine wpAny_pure ⟨plainId_quiet PySem.F.plain_min_loop _, ih (j + 1) _ _ _ c2 o' (by lia) hlt (ksk_fr F2 s1 nS2.2.1 nS2.2.2) (upd c2 _ s1 hc2) hit' (.inr ⟨j, t2, rfl, by lia, fun k hk => ?_, fun k hk => ?_⟩)⟩
        · by_cases e : k = j
          · subst e; exact slt_irr _
          · exact sle_tr hbt' (hb1 k (by lia))
        · exact slt_le hbt' (hb1 k (by lia))
      | false =>
        have hbt' := hbt
        simp only [hbt, Bool.false_eq_true, if_false]
        refine wpAny_bind (wpAny_letGo ?_)
        rw [hname]
        refine wpAny_pure ⟨plainId_quiet PySem.F.plain_min_loop _, ih (j + 1) _ _ _ c o' (by lia) hlt F2 N2 hit' (.inr ⟨i, t, rfl, by lia, fun k hk => ?_, hb2⟩)⟩
        by_cases e : k = j
        · subst e; exact hbt'
        · exact hb1 k (by lia)
theorem min_key {oI : Obj} (hh : A.handled = none) (F : Fr h₀ L s.heap m) (N : News h₀ L s.heap ((I, oI) :: news)) (hit : LIt oI l 0) (hnI : ∀ p ∈ news, p.1 ≠ I) (hl : ∀ h, Fr h₀ L h m → News h₀ L h news → h.IsList l vs.toArray)
    (hc : KeyCall prog w A.in1 h₀ L m (.ref q) K vs)
    (hQ0 : vs = [] → ∀ h' tk', Fr h₀ L h' m → News h₀ L h' news → Q d { s with heap := h', toks := tk' })
    (hQ : ∀ i h' tk', IsBest slt K vs vs.length i → Fr h₀ L h' m → News h₀ L h' news → Q (vs.getD i .none) { s with heap := h', toks := tk' }) :
    wpAny (model prog w) A (call (.builtin "min") [.ref I] [(Str.ofString "default", d), (Str.ofString "key", .ref q)]) Q E s := by
  have hname : (toString "min" ++ toString ".loop" : String) = "min.loop" := by decide
  refine kmk_tree PySem.F.kind_min PySem.F.plain_min PySem.F.entry_min (argsOk_min_dk _ _ _) ?_
  show wpAny _ A.in1 (Builtin.Builtins.bindParams "min" ["key", "default"] 0 ⟨[], [(Str.ofString "default", d), (Str.ofString "key", .ref q)]⟩ >>= _) _ _ s
  refine wpAny_bind (wpAny_of_eq (show Builtin.Builtins.bindParams "min" ["key", "default"] 0 ⟨[], [(Str.ofString "default", d), (Str.ofString "key", .ref q)]⟩ = pure [some (.ref q), some d] from rfl) ?_)
  refine wpAny_bind (wpAny_pure ?_)
  refine wpAny_bind (wpAny_pyIter_listiter (l := l) (i := 0) ⟨oI, (N _ (.head _)).1, hit⟩ ?_)
  refine wpAny_bind (wpAny_newList ?_ (Nat.zero_le _))
  rw [hname]
  refine wpAny_pure ⟨plainId_quiet PySem.F.plain_min_loop _, ?_⟩
  have F1 := F.push (seqObj "list" #[] 0)
  have N1 := News.push F N (seqObj "list" #[] 0)
  have hS : ∀ p ∈ (I, oI) :: news, p.1 ≠ s.heap.objs.size := fun p hp => Nat.ne_of_lt (Heap.lt_size (N p hp).1)
  exact min_loop (s := s) (R := fun r s' => match r with | .ok (.ret v) => Q v s' | .ok _ => False | .error e => E e s') hh hl (Ne.symm (hS _ (.head _))) (fun p hp => hS p (.tail _ hp)) hnI hc hQ0 hQ _ 0 _ _ #[] 0 oI rfl (Nat.zero_le _) F1 (news_swap N1) hit (.inl ⟨rfl, rfl⟩)
theorem argsOk_max_dk (a v u : Value) : argsOk "max" ⟨[a], [(Str.ofString "default", v), (Str.ofString "key", u)]⟩ := by unfold argsOk; kernel_rfl
theorem max_loop (hh : A.handled = none) (hl : ∀ h, Fr h₀ L h m → News h₀ L h news → h.IsList l vs.toArray) (hSI : S ≠ I) (hnS : ∀ p ∈ news, p.1 ≠ S) (hnI : ∀ p ∈ news, p.1 ≠ I)
    (hc : KeyCall prog w A.in1 h₀ L m (.ref q) K vs)
    (hR0 : vs = [] → ∀ h' tk', Fr h₀ L h' m → News h₀ L h' news → R (.ok (.ret d)) { s with heap := h', toks := tk' })
    (hR : ∀ i h' tk', IsBest sgt K vs vs.length i → Fr h₀ L h' m → News h₀ L h' news → R (.ok (.ret (vs.getD i .none))) { s with heap := h', toks := tk' }) :
    ∀ (r j : Nat) (h : Heap) (tk : Nat) (best : Array Value) (c : Nat) (oI : Obj), vs.length - j = r → j ≤ vs.length → Fr h₀ L h m →
      News h₀ L h ((I, oI) :: (S, seqObj "list" best c) :: news) → LIt oI l j → Bst sgt K vs j best →
      codeAny (model prog w) A (.builtin "max.loop" ⟨[.ref I, .ref q, .ref S], [(Str.ofString "default", d)]⟩) R { s with heap := h, toks := tk } := by
  have hname : (toString "max" ++ toString ".loop" : String) = "max.loop" := by decide
  intro r
  induction r with
  | zero =>
    intro j h tk best c oI hr hj F N hit hb
    have hin : j = vs.length := by lia
    have nS := N (S, seqObj "list" best c) (.tail _ (.head _))
    refine codeAny_builtin PySem.F.entry_max_loop ?_
    rw [Around.under_plainId PySem.F.plain_max_loop _]
    show wpAny _ A.in1 (seqItems? (.ref S) >>= _) _ _ _
    refine wpAny_bind (wpAny_seqItems nS.1 rfl ?_)
    show wpAny _ A.in1 (tryCatch (pyNext (.ref I)) _ >>= _) _ _ _
    have offI : ∀ p ∈ (S, seqObj "list" best c) :: news, p.1 ≠ I := fun p hp => by
      rcases List.mem_cons.mp hp with rfl | hp
      · exact hSI
      · exact hnI p hp
    refine wpAny_bind (wpAny_tryCatch (next_list_end (its := vs) hh F N hit offI (hl h F fun p hp => N p (.tail _ (.tail _ hp))) (by simp; lia) fun h' F' N' => ?_))
    have nS' := N' _ (.head _)
    have Nn : News h₀ L h' news := fun p hp => N' p (.tail _ hp)
    rcases hb with ⟨hj0, rfl⟩ | ⟨i, t, rfl, hi⟩
    · show wpAny _ A.in1 (rule _ >>= _) _ _ _
      refine wpAny_bind (wpAny_rule (wpAny_pure ?_))
      exact hR0 (List.length_eq_zero_iff.mp (by lia)) _ _ F' Nn
    · have s1 := Heap.SameBut.update h' S (Obj.mapSeq fun _ => (#[] : Array Value))
      show wpAny _ A.in1 (updateSeq S (fun _ => #[]) >>= _) _ _ _
      refine wpAny_bind ?_
      refine wpAny_updateSeq nS'.1 rfl (wpAny_bind (wpAny_letGo (wpAny_pure ?_)))
      rw [hin] at hi
      exact hR i _ _ hi (ksk_fr F' s1 nS'.2.1 nS'.2.2) (ksk_news Nn s1 hnS)
  | succ r ih =>
    intro j h tk best c oI hr hj F N hit hb
    have hlt : j < vs.length := by lia
    have nS := N (S, seqObj "list" best c) (.tail _ (.head _))
    refine codeAny_builtin PySem.F.entry_max_loop ?_
    rw [Around.under_plainId PySem.F.plain_max_loop _]
    show wpAny _ A.in1 (seqItems? (.ref S) >>= _) _ _ _
    refine wpAny_bind (wpAny_seqItems nS.1 rfl ?_)
    show wpAny _ A.in1 (tryCatch (pyNext (.ref I)) _ >>= _) _ _ _
    have offI : ∀ p ∈ (S, seqObj "list" best c) :: news, p.1 ≠ I := fun p hp => by
      rcases List.mem_cons.mp hp with rfl | hp
      · exact hSI
      · exact hnI p hp
    refine wpAny_bind (wpAny_tryCatch (next_list (its := vs) (x := vs.getD j .none) F N hit offI (hl h F fun p hp => N p (.tail _ (.tail _ hp))) (by simp [List.getD, hlt]) fun h' o' F' N' hit' => ?_))
    show wpAny _ A.in1 (tryCatch (holding [vs.getD j .none] (call (.ref q) [vs.getD j .none])) _ >>= _) _ _ _
    refine wpAny_bind (wpAny_tryCatch (wpAny_holding (hc _ (getD_mem hlt) _ _ _ _ F' N' fun t2 h2 tk2 F2 N2 => ?_)))
    have nS2 := N2 (S, seqObj "list" best c) (.tail _ (.head _))
    have nI2 := N2 (I, o') (.head _)
    have upd : ∀ (c2 : Nat) (h3 : Heap), Heap.SameBut S h2 h3 → h3.get? S = some (seqObj "list" #[vs.getD j .none, .str (K (vs.getD j .none)) t2] c2) → News h₀ L h3 ((I, o') :: (S, seqObj "list" #[vs.getD j .none, .str (K (vs.getD j .none)) t2] c2) :: news) := fun c2 h3 s1 hc2 p hp => by
      rcases List.mem_cons.mp hp with rfl | hp
      · exact ⟨(s1.2 I hSI.symm).trans nI2.1, nI2.2⟩
      · rcases List.mem_cons.mp hp with rfl | hp
        · exact ⟨hc2, nS2.2⟩
        · exact ⟨(s1.2 _ (hnS p hp)).trans (N2 p (.tail _ (.tail _ hp))).1, (N2 p (.tail _ (.tail _ hp))).2⟩
    have s1 := Heap.SameBut.update h2 S (Obj.mapSeq fun _ => #[vs.getD j .none, .str (K (vs.getD j .none)) t2])
    obtain ⟨c2, hc2⟩ : ∃ c2, (h2.update S (Obj.mapSeq fun _ => #[vs.getD j .none, .str (K (vs.getD j .none)) t2])).get? S = some (seqObj "list" #[vs.getD j .none, .str (K (vs.getD j .none)) t2] c2) := ⟨_, get?_update_seq nS2.1 fun _ => #[vs.getD j .none, .str (K (vs.getD j .none)) t2]⟩
    rcases hb with ⟨hj0, rfl⟩ | ⟨i, t, rfl, hi⟩
    · show wpAny _ A.in1 (updateSeq S (fun _ => #[vs.getD j .none, .str (K (vs.getD j .none)) t2]) >>= _) _ _ _
      refine wpAny_bind ?_
      refine wpAny_updateSeq nS2.1 rfl ?_
      rw [hname]
      refine wpAny_pure ⟨plainId_quiet PySem.F.plain_max_loop _, ih (j + 1) _ _ _ c2 o' (by lia) hlt (ksk_fr F2 s1 nS2.2.1 nS2.2.2) (upd c2 _ s1 hc2) hit' (.inr ⟨j, t2, rfl, by lia, fun k hk => ?_, fun k hk => by lia⟩)⟩
      have : k = j := by lia
      subst this; exact slt_irr _
    · show wpAny _ A.in1 (tryCatch (holding [vs.getD j .none, .str (K (vs.getD j .none)) t2] (richCompare .Gt (.str (K (vs.getD j .none)) t2) (.str (K (vs.getD i .none)) t) >>= _)) _ >>= _) _ _ _
      refine wpAny_bind (wpAny_tryCatch (wpAny_holding (wpAny_bind (rgt_str ?_))))
      refine wpAny_bind (wpAny_holding (wpAny_truthy_bool ?_))
      refine wpAny_bind (wpAny_letGo (wpAny_pure ?_))
      obtain ⟨hij, hb1, hb2⟩ := hi
      cases hbt : sgt (K (vs.getD j .none)) (K (vs.getD i .none)) with
      | true =>
        have hbt' := hbt
        simp only [hbt, if_true]
        refine wpAny_bind ?_
        refine wpAny_updateSeq nS2.1 rfl (wpAny_bind (wpAny_letGo ?_))
        rw [hname]
        refine wpAny_pure ⟨plainId_quiet PySem.F.plain_max_loop _, ih (j + 1) _ _ _ c2 o' (by lia) hlt (ksk_fr F2 s1 nS2.2.1 nS2.2.2) (upd c2 _ s1 hc2) hit' (.inr ⟨j, t2, rfl, by lia, fun k hk => ?_, fun k hk => ?_⟩)⟩
        · by_cases e : k = j
          · subst e; exact slt_irr _
          · exact sge_tr hbt' (hb1 k (by lia))
        · exact sgt_ge hbt' (hb1 k (by lia))
      | false =>
        have hbt' := hbt
        simp only [hbt, Bool.false_eq_true, if_false]
        refine wpAny_bind (wpAny_letGo ?_)
        rw [hname]
        refine wpAny_pure ⟨plainId_quiet PySem.F.plain_max_loop _, ih (j + 1) _ _ _ c o' (by lia) hlt F2 N2 hit' (.inr ⟨i, t, rfl, by lia, fun k hk => ?_, hb2⟩)⟩
        by_cases e : k = j
        · subst e; exact hbt'
        · exact hb1 k (by lia)
theorem max_key {oI : Obj} (hh : A.handled = none) (F : Fr h₀ L s.heap m) (N : News h₀ L s.heap ((I, oI) :: news)) (hit : LIt oI l 0) (hnI : ∀ p ∈ news, p.1 ≠ I) (hl : ∀ h, Fr h₀ L h m → News h₀ L h news → h.IsList l vs.toArray)
    (hc : KeyCall prog w A.in1 h₀ L m (.ref q) K vs)
    (hQ0 : vs = [] → ∀ h' tk', Fr h₀ L h' m → News h₀ L h' news → Q d { s with heap := h', toks := tk' })
    (hQ : ∀ i h' tk', IsBest sgt K vs vs.length i → Fr h₀ L h' m → News h₀ L h' news → Q (vs.getD i .none) { s with heap := h', toks := tk' }) :
    wpAny (model prog w) A (call (.builtin "max") [.ref I] [(Str.ofString "default", d), (Str.ofString "key", .ref q)]) Q E s := by
  have hname : (toString "max" ++ toString ".loop" : String) = "max.loop" := by decide
  refine kmk_tree PySem.F.kind_max PySem.F.plain_max PySem.F.entry_max (argsOk_max_dk _ _ _) ?_
  show wpAny _ A.in1 (Builtin.Builtins.bindParams "max" ["key", "default"] 0 ⟨[], [(Str.ofString "default", d), (Str.ofString "key", .ref q)]⟩ >>= _) _ _ s
  refine wpAny_bind (wpAny_of_eq (show Builtin.Builtins.bindParams "max" ["key", "default"] 0 ⟨[], [(Str.ofString "default", d), (Str.ofString "key", .ref q)]⟩ = pure [some (.ref q), some d] from rfl) ?_)
  refine wpAny_bind (wpAny_pure ?_)
  refine wpAny_bind (wpAny_pyIter_listiter (l := l) (i := 0) ⟨oI, (N _ (.head _)).1, hit⟩ ?_)
  refine wpAny_bind (wpAny_newList ?_ (Nat.zero_le _))
  rw [hname]
  refine wpAny_pure ⟨plainId_quiet PySem.F.plain_max_loop _, ?_⟩
  have F1 := F.push (seqObj "list" #[] 0)
  have N1 := News.push F N (seqObj "list" #[] 0)
  have hS : ∀ p ∈ (I, oI) :: news, p.1 ≠ s.heap.objs.size := fun p hp => Nat.ne_of_lt (Heap.lt_size (N p hp).1)
  exact max_loop (s := s) (R := fun r s' => match r with | .ok (.ret v) => Q v s' | .ok _ => False | .error e => E e s') hh hl (Ne.symm (hS _ (.head _))) (fun p hp => hS p (.tail _ hp)) hnI hc hQ0 hQ _ 0 _ _ #[] 0 oI rfl (Nat.zero_le _) F1 (news_swap N1) hit (.inl ⟨rfl, rfl⟩)
end
end Mine
end

section
-- RulesL
open PySem PySem.W PyProof.Rows PySem.Calls PySem.Spec
set_option Elab.async false
set_option maxRecDepth 100000
set_option linter.unusedVariables false
namespace Mine
theorem entry_iter' : entryFor table "iter" = some Builtin.«iter» := entryFor_of_tree (by kernel_rfl)
theorem args_iter1 (a : Value) : argsOk "iter" ⟨[a], []⟩ := by unfold argsOk; kernel_rfl
theorem mro_object : mroOf (.type "object") = pure [.type "object"] := by rw [mroOf_type]; kernel_rfl
theorem lookup_object_new : typeLookup (.type "object") "__new__" = pure (some (.builtin "object.__new__")) := by rw [typeLookup_type, builtinLookup_eq_fast]; kernel_rfl
theorem called_object : TypeCalled "object" "object.__new__" "object.__init__" :=
  ⟨by decide +kernel, by decide +kernel, ⟨_, _, mro_object⟩, madeBy_type mro_object lookup_object_new (by decide +kernel), by decide +kernel, by rw [isSubtype_type]; kernel_rfl, PySem.F.slot_object_init⟩
theorem typeCall_object : checkTypeCall "object" ⟨[], []⟩ = pure () := by kernel_rfl
theorem entry_object_new : entryFor table "object.__new__" = some Builtin.«object.__new__» := entryFor_of_tree (by kernel_rfl)
theorem args_object_init1 (a : Value) : argsOk "object.__init__" ⟨[a], []⟩ := by
  unfold argsOk; rw [signature?_of (id := "object.__init__") (n := ['_', '_', 't', 'i', 'n', 'i', '_', '_']) (o := ['t', 'c', 'e', 'j', 'b', 'o']) (by kernel_rfl) PySem.F.owner_object]; kernel_rfl
theorem sub_object : isSubtype (.type "object") (.type "object") = pure true := by rw [isSubtype_type]; kernel_rfl
theorem stat_object : Bind.staticBase (.type "object") = pure (.type "object") := by
  unfold Bind.staticBase
  rw [mro_object, pure_bind, List.forIn_cons]
  dsimp only
  rw [called_object.made, pure_bind]
  rfl
theorem madeHere_object : Bind.madeHere "object.__new__" (.type "object") = pure () := by
  unfold Bind.madeHere
  rw [stat_object]
  rw [pure_bind, called_object.made, pure_bind, Option.map_some, bne_self_eq_false, if_neg (by decide)]
theorem newCall_object : checkBuiltinCall "object.__new__" ⟨[.type "object"], []⟩ = pure () := by
  unfold checkBuiltinCall
  rw [F.objNew.kind, F.objNew.split, F.objNew.row]
  dsimp only
  rw [if_pos (by decide), show isType (.type "object") = pure true from rfl, pure_bind, if_neg (by decide), sub_object, pure_bind, if_neg (by decide),
    show ((Manifest.find? "object").elim false fun x => x.noNew) = false by decide +kernel, if_neg (by decide), stat_object, pure_bind, called_object.made, pure_bind]
  dsimp only
  rw [bne_self_eq_false, if_neg (by decide)]
  kernel_rfl
theorem meets_object_new :
    Meets (Builtin.«object.__new__» ⟨[.type "object"], []⟩) (fun _ R s => R (.ok (.ret (.ref s.heap.objs.size))) { s with heap := s.heap.push { cls := .type "object", data := .plain } }) :=
  .of_wp fun prog w A R s h => by
    unfold Builtin.«object.__new__»
    refine wpAny_bind (wpAny_of_eq (a := true) (by first | rfl | kernel_rfl) ?_)
    dsimp only
    rw [if_neg (by decide)]
    show wpAny _ _ (if ((Manifest.find? "object").elim false fun x => x.mro.any fun t => (Manifest.find? t).elim false fun x => x.noNew) = true then _ else _) _ _ _
    rw [if_neg (by decide +kernel)]
    refine wpAny_bind (wpAny_of_eq madeHere_object ?_)
    rw [if_neg (by decide)]
    show wpAny _ _ (if typeHasDict (.type "object") = true then _ else _) _ _ _
    rw [if_neg (by decide +kernel)]
    refine wpAny_bind (wpAny_pure ?_)
    show wpAny _ _ (newObj (.type "object") .plain none >>= _) _ _ _
    refine wpAny_bind (wpAny_newObj_type ?_ (by size_fits))
    show wpAny _ _ (if diesByItsTypesDel "object" = true then _ else _) _ _ _
    rw [if_neg (by decide +kernel)]
    exact wpAny_pure ⟨_, rfl, h⟩
theorem meets_object_init {self : Value} : Meets (Builtin.«object.__init__» ⟨[self], []⟩) (fun _ R s => R (.ok (.ret .none)) s) :=
  .of_wp fun prog w A R s h => wpAny_pure ⟨_, rfl, h⟩
section
variable {prog : Program} {w : World} {A : Around} {E : Value → Shared → Prop} {s : Shared} {h₀ : Heap} {L R I : Addr} {m : Str → Option Value} {news : List (Addr × Obj)} {Q : Value → Shared → Prop}
theorem call_iter_list {its : List Value} {n : Nat} (F : Fr h₀ L s.heap m) (N : News h₀ L s.heap news) (hR : (R, listOf its.toArray n) ∈ news)
    (h : ∀ I o h', LIt o R 0 → Fr h₀ L h' m → News h₀ L h' ((I, o) :: news) → (∀ p ∈ news, p.1 ≠ I) → Q (.ref I) { s with heap := h' }) : wpAny (model prog w) A (call (.builtin "iter") [.ref R]) Q E s := by
  refine call_function_entry (by decide +kernel) (by decide +kernel) entry_iter' (args_iter1 _) ?_
  unfold Builtin.«iter»
  refine wpAny_bind (m := someArgs "iter" 1 2 _) (wpAny_of_eq (a := [Value.ref R]) (by first | rfl | kernel_rfl!) ?_)
  dsimp only
  refine wpAny_bind (wpAny_pyIter_list (PySem.IsL.isList (n := n) (N _ hR).1) (wpAny_pure ⟨_, rfl, ?_⟩))
  exact h _ _ _ ⟨rfl, rfl⟩ (F.push _) (News.push F N _) fun p hp => Nat.ne_of_lt (Heap.lt_size (N p hp).1)
theorem call_iter_it {o : Obj} {i : Nat} (N : News h₀ L s.heap news) (hI : (I, o) ∈ news) (ho : LIt o R i) (h : Q (.ref I) s) : wpAny (model prog w) A (call (.builtin "iter") [.ref I]) Q E s := by
  refine call_function_entry (by decide +kernel) (by decide +kernel) entry_iter' (args_iter1 _) ?_
  unfold Builtin.«iter»
  refine wpAny_bind (m := someArgs "iter" 1 2 _) (wpAny_of_eq (a := [Value.ref I]) (by first | rfl | kernel_rfl!) ?_)
  dsimp only
  exact wpAny_bind (wpAny_pyIter_listiter (l := R) (i := i) ⟨o, (N _ hI).1, ho⟩ (wpAny_pure ⟨_, rfl, h⟩))
theorem call_object (F : Fr h₀ L s.heap m) (N : News h₀ L s.heap news)
    (h : ∀ S h', Fr h₀ L h' m → News h₀ L h' ((S, { cls := .type "object", data := .plain }) :: news) → (∀ p ∈ news, p.1 ≠ S) → Q (.ref S) { s with heap := h' }) : wpAny (model prog w) A (call (.type "object") []) Q E s := by
  refine callType_meets called_object typeCall_object newCall_object entry_object_new PySem.F.entry_object_init meets_object_new (Q := Q) (Q₁ := fun obj s₁ => s₁.TypeIs obj "object" ∧ Q obj s₁) ?_ fun obj _ hq => ⟨hq.1, args_object_init1 obj, _, meets_object_init, rfl, hq.2⟩
  exact ⟨⟨_, Heap.get?_push_size _ rfl, rfl⟩, h _ _ (F.push _) (News.push F N _) fun p hp => Nat.ne_of_lt (Heap.lt_size (N p hp).1)⟩
end
end Mine
end

section
-- TurnA
open PySem PySem.W PyProof.Rows PySem.Calls PySem.Spec
set_option Elab.async false
set_option maxRecDepth 100000
set_option linter.unusedVariables false
namespace Mine
noncomputable abbrev frs (outer : List Env) : List Addr := outer.filterMap (·.frame)
theorem frs_mem {env : Env} {outer : List Env} {L b : Addr} (hf : env.frame = some L) (hm : b ∈ frs (env :: outer)) : b = L ∨ b ∈ frs outer := by
  obtain ⟨e, he, hb⟩ := List.mem_filterMap.mp hm
  rcases List.mem_cons.mp he with rfl | he
  · exact .inl (Option.some.inj (hf.symm.trans hb)).symm
  · exact .inr (List.mem_filterMap.mpr ⟨e, he, hb⟩)
/-- leaving a def in which the ground may have turned -/
noncomputable def LeaveT (A₀ : Around) (base : Heap) (outer : List Env) (env : Env) (h₀ : Heap) (L : Addr) (m : Str → Option Value) (g : Heap) (R : Result → Shared → Prop) (v : Value) (s' : Shared) : Prop :=
  ∃ g' L' m' news', KtsTurn (frs (env :: outer)) g g' ∧ Fr g' L' s'.heap m' ∧ News g' L' s'.heap news' ∧
    ∀ h₀', KtsTurn (frs outer) h₀ h₀' → Fr h₀' L s'.heap m → News h₀' L s'.heap news' → Below A₀ base outer h₀' → R (.ok (.ret v)) s'
section
variable {prog : Program} {w : World} {A A₀ : Around} {s : Shared} {base h₀ : Heap} {outer : List Env} {L : Addr} {m : Str → Option Value} {news : List (Addr × Obj)} {K : Frag} {p : Program} {loose : List Str} {mean : ExcName → Option Value} {mg mb : Str → Option Value}
theorem enterT {env : Env} {R : Result → Shared → Prop} {name qual : Str} {params : Arguments} {body : List Stmt} {scope : Scope} {dV kV doc pm cdv ct oc : Value} {an od : Option Addr} {osl : Array (Option Value)} {f : Addr} {args : Args} {binds : List (Str × Value)}
    (B : Below A₀ base outer h₀) (F : Fr h₀ L s.heap m) (X₀ : K.In h₀) (N : News h₀ L s.heap news) (T : Top p loose mean mg mb h₀) (hA : A.frames = some (env :: outer)) (hf : env.frame = some L) (hke : env.scope.kind = .function)
    (ho : K.lookup f = some ⟨oc, od, .func (fnOf name qual params body scope dV kV doc pm an cdv ct), osl⟩) (hcd : codeIn K cdv qual = true) (hroom : A.depth < recursionLimit)
    (hbind : BindsTo s (fnOf name qual params body scope dV kV doc pm an cdv ct) args binds) (hkind : (binds.all fun y => scope.names.lookup y.1 == some .local || scope.names.lookup y.1 == some .cell) = true)
    (hnd : ((cellsFrom 0 scope.names []).map (·.1)).Nodup)
    (h : ∀ g L' h₁ tk cells, Fr h₀ L g m → Fr g L' h₁ (bindL (envOfC qual scope L' f cdv).kindOf binds fun _ => none) → News g L' h₁ (cells ++ news) →
      CellsAre (bindC (envOfC qual scope L' f cdv).kindOf binds fun _ => none) (cellsFrom (L' + 1) scope.names []) cells → Below A base (env :: outer) g → K.In g → Top p loose mean mg mb g → (∀ p ∈ news, p.1 < L') →
      wpAny (model prog w) (A.deeper (envOfC qual scope L' f cdv)) (execs body (envOfC qual scope L' f cdv))
        (fun fl s' => LeaveT A₀ base outer env h₀ L m g R (match fl with | .ret v => v | _ => .none) s')
        (fun e s' => wpAny (model prog w) (A.deeper (envOfC qual scope L' f cdv)) (leaving (envOfC qual scope L' f cdv) e) (fun _ s'' => R (.error e) s'') (fun e' s'' => R (.error e') s'') s')
        { s with heap := h₁, toks := tk })
    (hco : scope.isCoroutine = false) (hgen : scope.isGenerator = false) (hk : scope.kind = .function) : codeAny (model prog w) A (.call (.ref f) args) R s := by
  have hlim := T.nolimit
  obtain ⟨FG, BG, st, -⟩ := groundX (R := R) B F N hA hf hke
  refine codeAny_call_function hroom ((X₀.keeps F.keep) _ _ ho) rfl hco hgen rfl (codeRec_of (X₀.keeps F.keep) hcd) (hbind _ _ _ _ ?_)
  refine wpAny_newFunctionEnv_cells hk (kindsX hkind _) fun env' he s' x => ?_
  subst he
  refine ⟨(hlim.keeps F.keep).keeps x.toInCall.keep, codeAny_func ?_⟩
  obtain ⟨h₁, tk, rfl, _⟩ := x.done
  have hk₁ := x.toInCall.keep
  obtain ⟨cells, NC, Y⟩ := Cl.news (h₀ := s.heap) (Nat.le_refl _) fun n c hm => ⟨x.cell n c (lookup_of_mem_nodup (cellsFrom_names scope.names 0 (s.heap.objs.size + 1) [] [] rfl ▸ hnd) hm), x.above n c hm⟩
  refine wpAny_mono (h _ s.heap.objs.size h₁ tk cells FG ⟨x.toInCall.ns, fun b o e => hk₁ b o (of_hideAll _ e), Nat.le_of_eq (hideAll_size _ _)⟩ (fun p hp => ?_) Y BG (X₀.keeps st) (T.keeps st) (fun p hp => Heap.lt_size (N p hp).1)) (fun fl s' hl => ?_) fun _ _ y => y
  · rcases List.mem_append.mp hp with hp | hp
    · refine ⟨(NC p hp).1, (NC p hp).2.1, ?_⟩
      cases q : (hideAll s.heap (news.map (·.1))).get? p.1 with
      | none => rfl
      | some o => have := of_hideAll _ q; rw [(NC p hp).2.2] at this; cases this
    · exact ⟨hk₁ _ _ (N p hp).1, Nat.ne_of_lt (Heap.lt_size (N p hp).1), hideAll_none _ (List.mem_map_of_mem hp)⟩
  · obtain ⟨g', L', m', news', T', F', N', k⟩ := hl
    generalize hG : hideAll s.heap (news.map (·.1)) = g at *
    have nL₀ : h₀.get? L = none := kts_self F
    obtain ⟨oL, es, ep, hLg, hLd, hLk, hLf⟩ := FG.ns
    obtain ⟨sl, hs⟩ := T'.up hLg
    obtain ⟨T₁, S₁⟩ := kts_turn_at (h := s'.heap) (fs := frs outer) (g := h₀)
      (fun b hb => by
        obtain ⟨_, o, ho', _⟩ := B.frames.mem hb
        exact ⟨o, ho'⟩)
      (fun b o e nmem => F'.keep b o (T'.other b o (st b o e) (fun q => by
        rcases frs_mem hf q with z | z
        · rw [z, nL₀] at e
          cases e
        · exact nmem z)))
      (fun b o e hm => by
        obtain ⟨sl', hs'⟩ := T'.up (st b o e)
        exact ⟨sl', F'.keep _ _ hs'⟩)
    have B₃ : Below A₀ base outer (ktsHeap s'.heap (frs outer) h₀) := ⟨B.stack, fun b o e => T₁.other b o (B.stays b o e) (fun hm => by
      rw [(B.frames.mem hm).1] at e
      cases e), B.frames.of_keeps fun b o e _ => by
      obtain ⟨sl', hs'⟩ := T₁.up e
      exact ⟨_, hs', rfl⟩⟩
    refine k _ T₁ ⟨⟨_, es, ep, F'.keep _ _ hs, hLd, hLk, hLf⟩, S₁, by rw [T₁.size]; exact F.above⟩ (fun p hp => ⟨(N' p hp).1, fun q => ?_, ?_⟩) B₃
    · have := (N' p hp).2.2; rw [q, hs] at this; cases this
    · refine T₁.none_ _ ?_
      cases q : h₀.get? p.1 with
      | none => rfl
      | some o =>
        obtain ⟨sl', hs'⟩ := T'.up (st _ _ q)
        have := (N' p hp).2.2
        rw [hs'] at this
        cases this
end
end Mine
end

section
-- TurnB
open PySem PySem.W PyProof.Rows PySem.Calls PySem.Spec
set_option Elab.async false
set_option maxRecDepth 100000
set_option linter.unusedVariables false
namespace Mine
section
variable {A₀ : Around} {base g G Bh h₅ : Heap} {outer : List Env} {L : Addr} {m : Str → Option Value} {env : Env}
theorem ground_turn (hf : env.frame = some L) (K : Below A₀ base outer g) (F : Fr g L G m) (hBG : ∀ b o, G.get? b = some o → b ∉ frs (env :: outer) → Bh.get? b = some o) (hBh : Bh.StaysIn h₅) (hsm : G.UpToSlots h₅) :
    ∃ g', KtsTurn (frs outer) g g' ∧ Fr g' L h₅ m ∧ Below A₀ base outer g' := by
  obtain ⟨T, S⟩ := kts_turn_at (h := h₅) (fs := frs outer) (g := g)
    (fun b hb => by
      obtain ⟨_, o, ho, _⟩ := K.frames.mem hb
      exact ⟨o, ho⟩)
    (fun b o e nm => hBh b o (hBG b o (F.keep b o e) (fun hm => by
      rcases frs_mem hf hm with z | z
      · rw [z, kts_self F] at e
        cases e
      · exact nm z)))
    (fun b o e hm => by
      obtain ⟨_, o', ho', hd⟩ := K.frames.mem hm
      rw [e] at ho'
      cases ho'
      exact hsm b o (F.keep b o e) hd)
  obtain ⟨oL, es, ep, hL, hLd, hLk, hLf⟩ := F.ns
  obtain ⟨sl, hs⟩ := hsm L oL hL fun vs q => by rw [hLd] at q; cases q
  refine ⟨_, T, ⟨⟨_, es, ep, hs, hLd, hLk, hLf⟩, S, by rw [T.size]; exact F.above⟩, K.stack, fun b o e => T.other b o (K.stays b o e) (fun hm => by
    rw [(K.frames.mem hm).1] at e
    cases e), K.frames.of_keeps fun b o e _ => ?_⟩
  obtain ⟨sl', hs'⟩ := T.up e
  exact ⟨_, hs', rfl⟩
end
section
variable {prog : Program} {w : World} {A₀ : Around} {E : Value → Shared → Prop} {s' : Shared} {base g h : Heap} {outer : List Env} {L a e : Addr} {m : Str → Option Value} {name : Str} {scope : Scope} {cd : Value} {cl : List (Str × Addr)}
  {b₀ : Stmt} {suite : List Stmt} {pos tpos p1 p2 : Pos} {kk : Nat} {rest : List ExceptHandler} {Q : Flow → Shared → Prop} {news : List (Addr × Obj)} {KF : Frag} {x1 x2 : Str} {c1 c2 : Value} {cls : String}
  {p : Program} {loose : List Str} {mean : ExcName → Option Value} {mg mb : Str → Option Value}
theorem caughtT (K : Below A₀ base outer g) (hx : Heap.NewExc h s'.heap e cls) (F : Fr g L h m) (N : News g L h news) (XB : KF.In base) (TB : Top p loose mean mg mb base) (hk : scope.kind = .function)
    (n1 : nsIn KF mainGlobals x1 = some none) (v1 : bootBuiltins x1 = some c1) (u1 : x1 ≠ "__name__") (k1 : (envX name scope L a cd cl).kindOf x1 = some .globalImplicit) (d1 : (x1 == ("__debug__" : Str)) = false)
    (n2 : nsIn KF mainGlobals x2 = some none) (v2 : bootBuiltins x2 = some c2) (u2 : x2 ≠ "__name__") (k2 : (envX name scope L a cd cl).kindOf x2 = some .globalImplicit) (d2 : (x2 == ("__debug__" : Str)) = false)
    (hm : exmAny KF (.type cls) [c1, c2] = some true)
    (k : ∀ h' g', KtsTurn (frs outer) g g' → Fr g' L h' m → News g' L h' news → Below A₀ base outer g' → KF.In g' → Top p loose mean mg mb g' →
      wpAny (model prog w) ((A₀.deeper (envX name scope L a cd cl)).mark (some (.ref e))) (execs (b₀ :: suite) (envX name scope L a cd cl)) Q E { s' with heap := h' })
    (hE : PassesOwnAt (model prog w) ((A₀.deeper (envX name scope L a cd cl)).mark (some (.ref e))) (A₀.deeper (envX name scope L a cd cl)) (envX name scope L a cd cl) E := by passes_own) :
    wpAny (model prog w) (A₀.deeper (envX name scope L a cd cl)) (noteFrame (.ref e) (envX name scope L a cd cl)) (fun _ s₂ => wpAny (model prog w) (A₀.deeper (envX name scope L a cd cl)) (setFlight (.ref e) none) (fun _ s₃ =>
      wpAny (model prog w) (A₀.deeper (envX name scope L a cd cl)) (handleBy (.ref e) (envX name scope L a cd cl) (.ExceptHandler (some (.Tuple [.Name x1 p1, .Name x2 p2] kk tpos)) none (b₀ :: suite) pos :: rest)) Q E s₃) E s₂) E s' := by
  generalize henv : envX name scope L a cd cl = env at *
  have hf : env.frame = some L := by rw [← henv]
  have hsk : env.scope.kind = .function := by rw [← henv]; exact hk
  have K' := pushX K F hf hsk
  have hin : ∀ env' ∈ (env :: outer), ∀ b, env'.frame = some b → b ∈ frs (env :: outer) := fun env' he b hb => List.mem_filterMap.mpr ⟨env', he, hb⟩
  have sg : ∀ b o, h.get? b = some o → b ∉ frs (env :: outer) → (hideAll h (frs (env :: outer))).get? b = some o := fun b o q nm => hideAll_get _ q nm
  have hl : ∀ q ∈ news, (hideAll h (frs (env :: outer))).get? q.1 = some q.2 := fun q hq => by
    refine hideAll_get _ (N q hq).1 fun hm => ?_
    rcases frs_mem hf hm with z | z
    · exact (N q hq).2.1 z
    · obtain ⟨o, ho, _⟩ := (K.frames.mem z).2
      rw [(N q hq).2.2] at ho; cases ho
  obtain ⟨ob, tp, he, hcls, hd⟩ := hx.there
  have hen : (hideAll h (frs (env :: outer))).get? e = none := by
    cases q : (hideAll h (frs (env :: outer))).get? e with
    | none => rfl
    | some o => have := of_hideAll _ q; rw [hx.new] at this; cases this
  unfold noteFrame
  simp only [hf]
  refine wpAny_bind (wpAny_field he hd (x := Value.none) rfl ?_)
  rw [if_neg (by decide)]
  refine wpAny_newEntryW (base := hideAll h (frs (env :: outer))) (a0 := tp) (hadNext := false) K'.stack ((funFrames_hide K'.frames hin).of_keeps fun b o hb _ => ⟨o, hx.keeps b o hb, rfl⟩) hf he (fun b o hb => hx.keeps b o (of_hideAll _ hb)) hen hd (by simp) rfl fun h₄ hL => ?_
  obtain ⟨q1, q2, q3, q4⟩ := hL
  rw [hcls] at q3
  have fl : Heap.FlyingW (hideAll h (frs (env :: outer))) (env :: outer) e (.type cls) tp h₄ := ⟨q1, hen, q2, q3⟩
  have sm : h.UpToSlots h₄ := (Heap.UpToSlots.of_keeps hx.keeps).trans q4
  obtain ⟨g₅, T₅, F₅, K₅⟩ := ground_turn hf K F sg fl.1 sm
  have X₅ : KF.In g₅ := XB.keeps K₅.stays
  have P₅ : TopRead p loose mg mb g₅ := topRead_of (TB.keeps K₅.stays)
  have ty : ∀ M : Model, Looks M h₄ (typeOf (.ref e)) (.type cls) := fun M => by
    obtain ⟨oe, ho, hc⟩ := fl.there
    rw [← hc]
    exact (Looks.ld ho).andThen .now
  refine wpAny_handleBy_cons (codeAny_handlers_test ?_) (by intro q; cases q)
  refine wpAny_Tuple ?_
  refine wpAny_items_cons ?_
  rw [← henv]
  refine nameX_B F₅ X₅ P₅ n1 v1 u1 ?_ hk (by rw [henv]; exact k1) d1
  refine wpAny_items_cons (nameX_B F₅ X₅ P₅ n2 v2 u2 ?_ hk (by rw [henv]; exact k2) d2)
  refine wpAny_items_nil ⟨by size_fits, ?_⟩
  have kp : ∀ q o, h₄.get? q = some o → (h₄.push { cls := .type "tuple", data := .seq [c1, c2].toArray }).get? q = some o := fun _ _ z => Heap.get?_push_of_some _ z
  refine (exm_tup2 ((X₅.keeps F₅.keep).keeps kp) ((ty _).keeps kp) (Heap.get?_push_size h₄ rfl) hm).here ?_
  rw [henv]
  refine codeAny_handlers_suite ?_
  have fl₅ := flying_keeps fl kp
  refine lands_againW fl₅ fun h₆ fl₆ sm₆ => ?_
  obtain ⟨g₆, T₆, F₆, K₆⟩ := ground_turn hf K F sg fl₆.1 ((sm.trans (Heap.UpToSlots.of_keeps kp)).trans sm₆)
  have hBL : (hideAll h (frs (env :: outer))).get? L = none := by
    obtain ⟨_, ⟨L', _, hf', hn', _⟩, _⟩ := fl₆.2.2.1
    obtain rfl : L = L' := Option.some.inj (hf.symm.trans hf')
    exact hn'
  refine wpAny_passesOwnAt hE (k h₆ g₆ T₆ F₆ (fun q hq => ⟨fl₆.1 _ _ (hl q hq), fun z => ?_, T₆.none_ _ (N q hq).2.2⟩) K₆ (XB.keeps K₆.stays) (TB.keeps K₆.stays))
  have := hl q hq
  rw [z, hBL] at this; cases this
end
end Mine
end

section
-- RulesM
open PySem PySem.W PyProof.Rows PySem.Calls PySem.Spec
set_option Elab.async false
set_option maxRecDepth 100000
set_option linter.unusedVariables false
namespace Mine
theorem entry_len' : entryFor table "len" = some Builtin.«len» := entryFor_of_tree (by kernel_rfl)
theorem args_len1' (a : Value) : argsOk "len" ⟨[a], []⟩ := by unfold argsOk; kernel_rfl
theorem nolen_listiter : typeLookup (.type "list_iterator") "__len__" = pure none := by rw [typeLookup_type, builtinLookup_eq_fast]; kernel_rfl
section
variable {prog : Program} {w : World} {A : Around} {E : Value → Shared → Prop} {s : Shared} {Q : Value → Shared → Prop}
theorem len_raises {I : Addr} (hT : s.TypeIs (.ref I) "list_iterator") (hh : A.handled = none) (h : ∀ h' tk e, Heap.NewExc s.heap h' e "TypeError" → E (.ref e) { s with heap := h', toks := tk }) :
    wpAny (model prog w) A (call (.builtin "len") [.ref I]) Q E s := by
  refine call_function_entry (by decide +kernel) (by decide +kernel) entry_len' (args_len1' _) ?_
  unfold Builtin.«len»
  refine wpAny_bind (m := oneArg "len" _) (wpAny_of_eq (a := Value.ref I) (by first | rfl | kernel_rfl!) ?_)
  refine wpAny_bind (wpAny_callSpecial?_none (name := Str.ofString "__len__") hT nolen_listiter ?_)
  dsimp only
  refine wpAny_bind (wpAny_rule ?_)
  refine wpAny_bind (wpAny_typeNameOf' hT (by decide +kernel) ?_)
  exact wpAny_raiseErrorMade plainExc_TypeError (by exact hh) h (by decide +kernel)
end
end Mine
end

section
-- RulesN
open PySem PySem.W PyProof.Rows PySem.Calls PySem.Spec PyProof.Rows.LCg
set_option Elab.async false
set_option maxRecDepth 100000
set_option linter.unusedVariables false
namespace Mine
section
variable {prog : Program} {w : World} {A : Around} {E : Value → Shared → Prop} {s : Shared} {h₀ : Heap} {L : Addr} {m : Str → Option Value} {env : Env}
theorem lc_assignF {elt target iter : Expr} {y : Str} {py : Pos} {ifs : List Expr} {scope : Scope} {cl : List (Str × Addr)} {pos spos : Pos} {Q : Flow → Shared → Prop} (F0 : Fr h₀ L s.heap m) (hLe : env.locals = L)
    (hsw : swapsWith (.ListComp elt [⟨target, iter, ifs, 0⟩] scope pos) (some (.Name y py)) spos.line env = pure true)
    (hclos : closureFor scope env = pure cl) (hcell : ∀ y ∈ scope.names, y.2 ≠ .cell) (hkind : scope.kind = .function)
    (hnames : ∀ y ∈ scope.names, y.2 = .local → scope.names.lookup y.1 = some .local)
    (hy : env.kindOf y = some .local) (hp : (env.scope.kind == .class || (env.scope.kind == .module && env.locals != env.globals)) = false)
    (h : wpAny (model prog w) A (eval iter env) (fun xv s₁ => wpAny (model prog w) A (pyIter xv) (fun it s₂ => LcAt prog w A h₀ L m env target ifs elt scope cl (fun s₂ => FinS h₀ L m s₂ y Q) it s₂) E s₁) E s)
    (hs : ∀ x, foldedSetIterable iter env x = pure x := by intro _; rfl) :
    wpAny (model prog w) A (exec (.Assign [.Name y py] (.ListComp elt [⟨target, iter, ifs, 0⟩] scope pos) spos) env) Q E s := lc_assign hLe hsw hclos hcell hkind hnames hy hp h hs
theorem lc_valueF {elt target iter : Expr} {ifs : List Expr} {scope : Scope} {cl : List (Str × Addr)} {pos : Pos} {Q : Value → Shared → Prop}
    (F0 : Fr h₀ L s.heap m) (hclos : closureFor scope env = pure cl) (hcell : ∀ y ∈ scope.names, y.2 ≠ .cell) (hkind : scope.kind = .function)
    (hnames : ∀ y ∈ scope.names, y.2 = .local → scope.names.lookup y.1 = some .local)
    (h : wpAny (model prog w) A (eval iter env) (fun xv s₁ => wpAny (model prog w) A (pyIter xv) (fun it s₂ => LcAt prog w A h₀ L m env target ifs elt scope cl (fun s₂ => FinV h₀ L m s₂ Q) it s₂) E s₁) E s)
    (hs : ∀ x, foldedSetIterable iter env x = pure x := by intro _; rfl) :
    wpAny (model prog w) A (eval (.ListComp elt [⟨target, iter, ifs, 0⟩] scope pos) env) Q E s := lc_value hclos hcell hkind hnames h hs
end
end Mine
end

section
-- RulesO
open PySem PySem.W PyProof.Rows PySem.Calls PySem.Spec PyProof.Rows.LCg
set_option Elab.async false
set_option maxRecDepth 100000
set_option linter.unusedVariables false
namespace Mine
section
variable {prog : Program} {w : World} {A : Around} {E : Value → Shared → Prop} {s : Shared} {h₀ : Heap} {L C : Addr} {m m₂ : Str → Option Value} {scope : Scope} {cl : List (Str × Addr)} {env : Env} {oC : Obj} {nw news : List (Addr × Obj)} {x : Str} {p : Pos} {v : Value} {Q : Value → Shared → Prop}
theorem cname_l (hk : scope.kind = .function) (hx : scope.names.lookup x = some .local) (N : News h₀ L s.heap news) (hC : (C, oC) ∈ news) (hoC : NsObj oC m₂) (hv : m₂ x = some v) (h : Q v s) (hd : (x == ("__debug__" : Str)) = false := by decide) :
    wpAny (model prog w) A (eval (.Name x p) (compEnvC scope cl C env)) Q E s :=
  wpAny_Name (wpAny_loadName_local (by exact hk) (lookup_relabel_local hx) (hoC.ns (N _ hC).1) hv h) hd
theorem cname_c {c : Addr} {o : Obj} (hk : scope.kind = .function) (hx : (compEnvC scope cl C env).kindOf x = some .cell) (hc : cl.lookup x = some c) (N : News h₀ L s.heap news) (hm : (c, o) ∈ news) (hd : o.data = .cell (some v)) (h : Q v s) (hb : (x == ("__debug__" : Str)) = false := by decide) :
    wpAny (model prog w) A (eval (.Name x p) (compEnvC scope cl C env)) Q E s :=
  wpAny_Name (wpAny_loadName_cell (by exact hk) hx hc ⟨o, N.get hm, hd⟩ h) hb
theorem elt_tup {c q : Addr} {oc fo : Obj} {fd : FuncData} {iv : Value} {kx ex ix : Str} {p1 p2 p3 p4 p5 p6 : Pos} {kk : Nat} {K : Value → Str} {vs : List Value} (hk : scope.kind = .function) (hkx : (compEnvC scope cl C env).kindOf kx = some .cell) (hcl : cl.lookup kx = some c)
    (hex : scope.names.lookup ex = some .local) (hix : scope.names.lookup ix = some .local) (F : Fr h₀ L s.heap m) (N : News h₀ L s.heap news) (hm : (c, oc) ∈ news) (dc : oc.data = .cell (some (.ref q))) (hfn : h₀.get? q = some fo) (hfd : fo.data = .func fd)
    (hC : (C, oC) ∈ news) (hoC : NsObj oC m₂) (me : m₂ ex = some v) (mi : m₂ ix = some iv) (key : KeyCall prog w A h₀ L m (.ref q) K vs) (hv : v ∈ vs)
    (h : ∀ a h' tk' t', Fr h₀ L h' m → News h₀ L h' ((a, tupObj [.str (K v) t', iv, v] 0) :: news) → (∀ p ∈ news, p.1 ≠ a) → Q (.ref a) { s with heap := h', toks := tk' })
    (d1 : (kx == ("__debug__" : Str)) = false := by decide) (d2 : (ex == ("__debug__" : Str)) = false := by decide) (d3 : (ix == ("__debug__" : Str)) = false := by decide) :
    wpAny (model prog w) A (eval (.Tuple [.Call (.Name kx p1) [.Name ex p2] [] p3, .Name ix p4, .Name ex p5] kk p6) (compEnvC scope cl C env)) Q E s := by
  refine Tuple_ (args_cons (Call_ (cname_c hk hkx hcl N hm dc ?_ d1)))
  refine callWith_def hfd (args_cons (cname_l hk hex N hC hoC me (args_nil ⟨F.keep _ _ hfn, ?_⟩) d2))
  refine key v hv s news _ _ F N fun t' h' tk' F' N' => ?_
  refine args_cons (cname_l hk hix N' hC hoC mi ?_ d3)
  refine args_cons (cname_l hk hex N' hC hoC me (args_nil ?_) d2)
  refine wpAny_newTuple ?_ (by size_fits)
  exact h _ _ _ t' (F'.push _) (News.push F' N' _) fun p hp => Nat.ne_of_lt (Heap.lt_size (N' p hp).1)
end
end Mine
end

section
-- RulesP
open PySem PySem.W PyProof.Rows PySem.Calls PySem.Spec PyProof.Rows.LCg
set_option Elab.async false
set_option maxRecDepth 100000
set_option linter.unusedVariables false
namespace Mine
theorem p_back3 {h₀ h : Heap} {L : Addr} {x y z : Addr × Obj} {tl : List (Addr × Obj)} (N : News h₀ L h (x :: y :: z :: tl)) : News h₀ L h (z :: x :: y :: tl) := fun p hp => by
  rcases List.mem_cons.mp hp with rfl | hp
  · exact N _ (.tail _ (.tail _ (.head _)))
  rcases List.mem_cons.mp hp with rfl | hp
  · exact N _ (.head _)
  rcases List.mem_cons.mp hp with rfl | hp
  · exact N _ (.tail _ (.head _))
  · exact N _ (.tail _ (.tail _ (.tail _ hp)))
theorem p_fwd3 {h₀ h : Heap} {L : Addr} {x y z : Addr × Obj} {tl : List (Addr × Obj)} (N : News h₀ L h (x :: y :: z :: tl)) : News h₀ L h (y :: z :: x :: tl) := p_back3 (p_back3 N)
inductive LlJ (N : Nat) (I l : Addr) (T : List Value → List (Addr × Obj) → Nat → Prop) (f : Nat) (ys : List Value) (nw : List (Addr × Obj)) : Prop
  | mk (k : Nat) (o : Obj) (nb : List (Addr × Obj)) (a1 : f = N + 1 - k) (a2 : k ≤ N) (a3 : nw = (I, o) :: nb) (a4 : LIt o l k) (a5 : T ys nb k) (a6 : ∀ p ∈ nb, p.1 ≠ I) : LlJ N I l T f ys nw
inductive RgJ (x0 : Int) (cnt : Nat) (I : Addr) (T : List Value → List (Addr × Obj) → Nat → Prop) (f : Nat) (ys : List Value) (nw : List (Addr × Obj)) : Prop
  | mk (k : Nat) (nb : List (Addr × Obj)) (a1 : f = cnt + 1 - k) (a2 : k ≤ cnt) (a3 : nw = (I, rIt (x0 + k) ((cnt : Int) - k) 1) :: nb) (a4 : T ys nb k) (a5 : ∀ p ∈ nb, p.1 ≠ I) : RgJ x0 cnt I T f ys nw
section
variable {prog : Program} {w : World} {A : Around} {E : Value → Shared → Prop} {s : Shared} {h₀ : Heap} {L I : Addr} {m : Str → Option Value} {env : Env}
theorem pyIter_it {o : Obj} {Q : Value → Shared → Prop} (ho : s.heap.get? I = some o) (hc : o.cls = .type "list_iterator") (h : Q (.ref I) s) : wpAny (model prog w) A (pyIter (.ref I)) Q E s := by
  have hT : s.TypeIs (.ref I) "list_iterator" := ⟨o, ho, hc⟩
  refine wpAny_pyIter_slot hT slot_listiter_iter (wpAny_call_entry slot_listiter_iter hT entry_listiter_iter ?_ (args_listiter_iter _))
  show wpAny _ _ (ret (.ref I)) _ _ s
  exact wpAny_pure ⟨_, rfl, "list_iterator", _, hT, slot_listiter_next.lookup, h⟩
/-- the end of a turn of a comprehension over an iterator io -/
inductive CEnd (h₀ : Heap) (L : Addr) (m : Str → Option Value) (s₂ : Shared) (C D : Addr) (io : Addr × Obj) (ys : List Value) (T : List Value → List (Addr × Obj) → Prop) (ys' : List Value) (s₅ : Shared) : Prop
  | mk (h' : Heap) (tk' : Nat) (oC' : Obj) (m' : Str → Option Value) (nb' : List (Addr × Obj)) (a1 : s₅ = { s₂ with heap := h', toks := tk' }) (a2 : NsObj oC' m') (a3 : Fr h₀ L h' m) (a4 : News h₀ L h' ((C, oC') :: (D, lst ys) :: io :: nb')) (a5 : ∀ p ∈ nb', p.1 ≠ C ∧ p.1 ≠ D ∧ p.1 ≠ io.1) (a6 : T ys' nb') : CEnd h₀ L m s₂ C D io ys T ys' s₅
noncomputable def CIf (prog : Program) (w : World) (A : Around) (h₀ : Heap) (L : Addr) (m : Str → Option Value) (s₂ : Shared) (cenv : Env) (elt : Expr) (C D : Addr) (io : Addr × Obj) (ys : List Value) (T : List Value → List (Addr × Obj) → Prop) (ok : Bool) (s₄ : Shared) : Prop :=
  if ok = true then wpAny (model prog w) A (eval elt cenv) (fun y s₅ => CEnd h₀ L m s₂ C D io ys T (ys ++ [y]) s₅) NoE s₄ else CEnd h₀ L m s₂ C D io ys T ys s₄
theorem cif_pos {s₂ : Shared} {cenv : Env} {elt : Expr} {C D : Addr} {io : Addr × Obj} {ys : List Value} {T : List Value → List (Addr × Obj) → Prop} {ok : Bool} {s₄ : Shared} (e : ok = true)
    (h : wpAny (model prog w) A (eval elt cenv) (fun y s₅ => CEnd h₀ L m s₂ C D io ys T (ys ++ [y]) s₅) NoE s₄) : CIf prog w A h₀ L m s₂ cenv elt C D io ys T ok s₄ := by
  unfold CIf; rw [if_pos e]; exact h
theorem cif_neg {s₂ : Shared} {cenv : Env} {elt : Expr} {C D : Addr} {io : Addr × Obj} {ys : List Value} {T : List Value → List (Addr × Obj) → Prop} {ok : Bool} {s₄ : Shared} (e : ¬ ok = true)
    (h : CEnd h₀ L m s₂ C D io ys T ys s₄) : CIf prog w A h₀ L m s₂ cenv elt C D io ys T ok s₄ := by
  unfold CIf; rw [if_neg e]; exact h
noncomputable def CTurn (prog : Program) (w : World) (A : Around) (h₀ : Heap) (L : Addr) (m : Str → Option Value) (s₂ : Shared) (env : Env) (target : Expr) (ifs : List Expr) (elt : Expr) (scope : Scope) (cl : List (Str × Addr)) (T T' : List Value → List (Addr × Obj) → Prop) (v : Value) : Prop :=
  ∀ ys nb C oC D m₂ h tk io, T ys nb → NsObj oC m₂ → Fr h₀ L h m → News h₀ L h ((C, oC) :: (D, lst ys) :: io :: nb) → C ≠ D → io.1 ≠ C → io.1 ≠ D → (∀ p ∈ nb, p.1 ≠ C ∧ p.1 ≠ D ∧ p.1 ≠ io.1) →
    wpAny (model prog w) A (assign target (compEnvC scope cl C env) v) (fun _ s₃ =>
      wpAny (model prog w) A (forIn ifs true fun c r => if r = true then do let ok ← isTrue c (compEnvC scope cl C env) (eval c (compEnvC scope cl C env)); pure (ForInStep.yield ok) else pure (ForInStep.yield r))
        (fun ok s₄ => CIf prog w A h₀ L m s₂ (compEnvC scope cl C env) elt C D io ys T' ok s₄) NoE s₃) NoE { s₂ with heap := h, toks := tk }
theorem cend_lc {s₂ : Shared} {C D : Addr} {io : Addr × Obj} {ys ys' : List Value} {T : List Value → List (Addr × Obj) → Prop} {J : Nat → List Value → List (Addr × Obj) → Prop} {n n' : Nat} {s₅ : Shared} (hn : n' < n) (hIC : io.1 ≠ C) (hID : io.1 ≠ D)
    (hJ : ∀ nb', T ys' nb' → (∀ p ∈ nb', p.1 ≠ io.1) → J n' ys' (io :: nb')) (h : CEnd h₀ L m s₂ C D io ys T ys' s₅) : LcEnd h₀ L m s₂ C D J n ys ys' s₅ := by
  obtain ⟨h', tk', oC', m', nb', rfl, a1, a2, a3, a4, a5⟩ := h
  refine ⟨h', tk', oC', m', io :: nb', n', rfl, a1, a2, a3, fun p hp => ?_, hn, hJ nb' a5 fun p hp => (a4 p hp).2.2⟩
  rcases List.mem_cons.mp hp with rfl | hp
  · exact ⟨hIC, hID⟩
  · exact ⟨(a4 p hp).1, (a4 p hp).2.1⟩
theorem cif_lc {s₂ : Shared} {cenv : Env} {elt : Expr} {C D : Addr} {io : Addr × Obj} {ys : List Value} {T : List Value → List (Addr × Obj) → Prop} {J : Nat → List Value → List (Addr × Obj) → Prop} {n n' : Nat} {ok : Bool} {s₄ : Shared} (hn : n' < n) (hIC : io.1 ≠ C) (hID : io.1 ≠ D)
    (hJ : ∀ ys' nb', T ys' nb' → (∀ p ∈ nb', p.1 ≠ io.1) → J n' ys' (io :: nb')) (h : CIf prog w A h₀ L m s₂ cenv elt C D io ys T ok s₄) : LcIf prog w A h₀ L m s₂ cenv elt C D J n ys ok s₄ := by
  unfold CIf at h
  unfold LcIf
  cases ok with
  | false => exact cend_lc hn hIC hID (hJ _) h
  | true => exact wpAny_mono h (fun y s₅ h₅ => cend_lc hn hIC hID (hJ _) h₅) fun _ _ e => e

theorem list_lcat {scope : Scope} {cl : List (Str × Addr)} {elt target : Expr} {ifs : List Expr} {s₂ : Shared} {l : Addr} {its : List Value} {nl : Nat} {o : Obj} {nb₀ : List (Addr × Obj)} {Fin : Shared → List Value → List (Addr × Obj) → Prop} (hh : A.handled = none)
    (F : Fr h₀ L s₂.heap m) (N : News h₀ L s₂.heap ((I, o) :: nb₀)) (ho : LIt o l 0) (offI : ∀ p ∈ nb₀, p.1 ≠ I) (hz : its.length < 900)
    (T : List Value → List (Addr × Obj) → Nat → Prop) (h0 : T [] nb₀ 0) (hT : ∀ ys nb k, T ys nb k → (l, listOf its.toArray nl) ∈ nb ∧ ys.length ≤ k)
    (hlet : (∀ v, letOwnedTupleGo target (.ref I) v = pure ()) ∨ ∃ elts x1 ps, target = .Tuple elts x1 ps ∧ ∀ v ∈ its, ∃ a, v = .ref a)
    (turn : ∀ k v, k < its.length → its[k]? = some v → CTurn prog w A h₀ L m s₂ env target ifs elt scope cl (fun ys nb => T ys nb k) (fun ys nb => T ys nb (k + 1)) v)
    (fin : ∀ ys nb, T ys nb its.length → Fin s₂ ys nb) :
    LcAt prog w A h₀ L m env target ifs elt scope cl Fin (.ref I) s₂ := by
  refine ⟨(I, o) :: nb₀, LlJ its.length I l T, its.length + 1, F, N, ⟨0, o, nb₀, rfl, Nat.zero_le _, rfl, ho, h0, offI⟩, ?_, ?_, ?_⟩
  · rintro n ys nw ⟨k, o', nb, -, hk, -, -, ht, -⟩
    have := (hT _ _ _ ht).2; lia
  · intro h tk Q' up hq
    exact pyIter_it (up _ _ (N _ (.head _)).1) ho.1 hq
  · rintro n ys nw C oC D m₂ h tk ⟨k, o', nb, rfl, hk, rfl, ho', ht, offI'⟩ hoC F' N' hCD off'
    have hIC := (off' _ (.head _)).1
    have hID := (off' _ (.head _)).2
    have NI : News h₀ L h ((I, o') :: (C, oC) :: (D, lst ys) :: nb) := p_back3 N'
    have offR : ∀ p ∈ (C, oC) :: (D, lst ys) :: nb, p.1 ≠ I := fun p hp => by
      rcases List.mem_cons.mp hp with rfl | hp
      · exact hIC.symm
      · rcases List.mem_cons.mp hp with rfl | hp
        · exact hID.symm
        · exact offI' p hp
    have hl : h.IsList l its.toArray := PySem.IsL.isList (n := nl) (NI _ (.tail _ (.tail _ (.tail _ (hT _ _ _ ht).1)))).1
    by_cases hk' : k < its.length
    · obtain ⟨v, hv⟩ : ∃ v, its[k]? = some v := ⟨its[k], by simp [hk']⟩
      refine next_list (s := { s₂ with heap := h, toks := tk }) F' NI ho' offR hl hv fun h₁ o₁ F₁ N₁ ho₁ => ?_
      have N₂ : News h₀ L h₁ ((C, oC) :: (D, lst ys) :: (I, o₁) :: nb) := p_fwd3 N₁
      have go := turn k v hk' hv ys nb C oC D m₂ h₁ tk (I, o₁) ht hoC F₁ N₂ hCD hIC hID fun p hp => ⟨(off' p (.tail _ hp)).1, (off' p (.tail _ hp)).2, offI' p hp⟩
      have go' : wpAny (model prog w) A (assign target (compEnvC scope cl C env) v) (fun _ s₃ =>
          wpAny (model prog w) A (forIn ifs true fun c r => if r = true then do let ok ← isTrue c (compEnvC scope cl C env) (eval c (compEnvC scope cl C env)); pure (ForInStep.yield ok) else pure (ForInStep.yield r))
            (fun ok s₄ => LcIf prog w A h₀ L m s₂ (compEnvC scope cl C env) elt C D (LlJ its.length I l T) (its.length + 1 - k) ys ok s₄) NoE s₃) NoE { s₂ with heap := h₁, toks := tk } :=
        wpAny_mono go (fun _ s₃ h₃ => wpAny_mono h₃ (fun ok s₄ h₄ => cif_lc (io := (I, o₁)) (n' := its.length + 1 - (k + 1)) (by lia) hIC hID (fun ys' nb' ht' hoff => ⟨k + 1, o₁, nb', rfl, by lia, rfl, ho₁, ht', hoff⟩) h₄) fun _ _ e => e) fun _ _ e => e
      rcases hlet with e | ⟨elts, x1, ps, rfl, hr⟩
      · exact wpAny_of_eq (e v) go'
      · obtain ⟨a, rfl⟩ := hr v (List.mem_of_getElem? hv)
        exact wpAny_letOwnedTupleGo_listiter (I := I) (l := l) (i := k + 1) ⟨o₁, (N₁ _ (.head _)).1, ho₁⟩ go'
    · have hke : k = its.length := by lia
      refine next_list_end (s := { s₂ with heap := h, toks := tk }) hh F' NI ho' offR hl (by simp; lia) fun h₁ F₁ N₁ => ?_
      exact ⟨h₁, tk, nb, rfl, F₁, N₁, fun p hp => off' p (.tail _ hp), fin _ _ (hke ▸ ht)⟩

theorem range_lcat {scope : Scope} {cl : List (Str × Addr)} {elt : Expr} {x : Str} {px : Pos} {ifs : List Expr} {s₂ : Shared} {x0 : Int} {cnt : Nat} {nb₀ : List (Addr × Obj)} {Fin : Shared → List Value → List (Addr × Obj) → Prop} (hh : A.handled = none)
    (F : Fr h₀ L s₂.heap m) (N : News h₀ L s₂.heap ((I, rIt x0 cnt 1) :: nb₀)) (offI : ∀ p ∈ nb₀, p.1 ≠ I) (hz : cnt < 900)
    (T : List Value → List (Addr × Obj) → Nat → Prop) (h0 : T [] nb₀ 0) (hT : ∀ ys nb k, T ys nb k → ys.length ≤ k)
    (turn : ∀ (k : Nat) t, k < cnt → CTurn prog w A h₀ L m s₂ env (.Name x px) ifs elt scope cl (fun ys nb => T ys nb k) (fun ys nb => T ys nb (k + 1)) (.int (x0 + k) t))
    (fin : ∀ ys nb, T ys nb cnt → Fin s₂ ys nb) :
    LcAt prog w A h₀ L m env (.Name x px) ifs elt scope cl Fin (.ref I) s₂ := by
  refine ⟨(I, rIt x0 cnt 1) :: nb₀, RgJ x0 cnt I T, cnt + 1, F, N, ⟨0, nb₀, rfl, Nat.zero_le _, by simp, h0, offI⟩, ?_, ?_, ?_⟩
  · rintro n ys nw ⟨k, nb, -, hk, -, ht, -⟩
    have := hT _ _ _ ht; lia
  · intro h tk Q' up hq
    exact wpAny_pyIter_rangeiter (up _ _ (N _ (.head _)).1) hq
  · rintro n ys nw C oC D m₂ h tk ⟨k, nb, rfl, hk, rfl, ht, offI'⟩ hoC F' N' hCD off'
    have hIC := (off' _ (.head _)).1
    have hID := (off' _ (.head _)).2
    have NI : News h₀ L h ((I, rIt (x0 + k) ((cnt : Int) - k) 1) :: (C, oC) :: (D, lst ys) :: nb) := p_back3 N'
    have offR : ∀ p ∈ (C, oC) :: (D, lst ys) :: nb, p.1 ≠ I := fun p hp => by
      rcases List.mem_cons.mp hp with rfl | hp
      · exact hIC.symm
      · rcases List.mem_cons.mp hp with rfl | hp
        · exact hID.symm
        · exact offI' p hp
    by_cases hk' : k < cnt
    · refine next_range (s := { s₂ with heap := h, toks := tk }) F' NI offR (by lia) fun h₁ F₁ N₁ => ?_
      have N₂ : News h₀ L h₁ ((C, oC) :: (D, lst ys) :: (I, rIt (x0 + k + 1) ((cnt : Int) - k - 1) 1) :: nb) := p_fwd3 N₁
      have go := turn k tk hk' ys nb C oC D m₂ h₁ (tk + 1) (I, rIt (x0 + k + 1) ((cnt : Int) - k - 1) 1) ht hoC F₁ N₂ hCD hIC hID fun p hp => ⟨(off' p (.tail _ hp)).1, (off' p (.tail _ hp)).2, offI' p hp⟩
      refine wpAny_of_eq (a := ()) rfl ?_
      refine wpAny_mono go (fun _ s₃ h₃ => wpAny_mono h₃ (fun ok s₄ h₄ => cif_lc (io := (I, rIt (x0 + k + 1) ((cnt : Int) - k - 1) 1)) (n' := cnt + 1 - (k + 1)) (by lia) hIC hID (fun ys' nb' ht' hoff => ⟨k + 1, nb', rfl, by lia, ?_, ht', hoff⟩) h₄) fun _ _ e => e) fun _ _ e => e
      rw [show x0 + ((k + 1 : Nat) : Int) = x0 + k + 1 by lia, show (cnt : Int) - ((k + 1 : Nat) : Int) = (cnt : Int) - k - 1 by lia]
    · have hke : k = cnt := by lia
      refine next_range_end (s := { s₂ with heap := h, toks := tk }) hh F' NI offR (by lia) fun h₁ F₁ N₁ => ?_
      exact ⟨h₁, tk, nb, rfl, F₁, N₁, fun p hp => off' p (.tail _ hp), fin _ _ (hke ▸ ht)⟩

/-- for over what is left of a list's iterator -/
noncomputable def ItSt (o : Obj) (R : Addr) (j n : Nat) : Prop := (LIt o R j ∧ j ≤ n) ∨ (Ended o ∧ j = n)
inductive FEnd (g : Heap) (L I R : Addr) (s : Shared) (J : Nat → (Str → Option Value) → List (Addr × Obj) → Prop) (j : Nat) (s₅ : Shared) : Prop
  | mk (h : Heap) (tk : Nat) (m' : Str → Option Value) (o' : Obj) (tl' : List (Addr × Obj)) (a1 : s₅ = { s with heap := h, toks := tk }) (a2 : Fr g L h m') (a3 : News g L h ((I, o') :: tl')) (a4 : ∀ p ∈ tl', p.1 ≠ I) (a5 : LIt o' R j) (a6 : J j m' tl') : FEnd g L I R s J j s₅
inductive FiJ (N : Nat) (g : Heap) (L I R : Addr) (s₀ : Shared) (J : Nat → (Str → Option Value) → List (Addr × Obj) → Prop) (n : Nat) (s' : Shared) : Prop
  | mk (j : Nat) (h : Heap) (tk : Nat) (m' : Str → Option Value) (o' : Obj) (tl' : List (Addr × Obj)) (a1 : n = N - j) (a2 : s' = { s₀ with heap := h, toks := tk }) (a3 : Fr g L h m') (a4 : News g L h ((I, o') :: tl')) (a5 : ∀ p ∈ tl', p.1 ≠ I) (a6 : ItSt o' R j N) (a7 : J j m' tl') : FiJ N g L I R s₀ J n s'
theorem for_it {target : Expr} {body : List Stmt} {Q : Flow → Shared → Prop} {g : Heap} {R : Addr} {rs : List Value} {nR j₀ : Nat} {o : Obj} {tl : List (Addr × Obj)} {s₀ : Shared} {h0 : Heap} {tk0 : Nat} (hh : A.handled = none)
    (hs : s = { s₀ with heap := h0, toks := tk0 }) (F : Fr g L h0 m) (N : News g L h0 ((I, o) :: tl)) (off : ∀ p ∈ tl, p.1 ≠ I) (ho : ItSt o R j₀ rs.length) (hlet : ∀ v, letOwnedTupleGo target (.ref I) v = pure ())
    (J : Nat → (Str → Option Value) → List (Addr × Obj) → Prop) (hJ0 : J j₀ m tl) (hJ : ∀ j m' tl', J j m' tl' → (R, listOf rs.toArray nR) ∈ tl')
    (turn : ∀ j m' tl' h tk o' v, j < rs.length → rs[j]? = some v → LIt o' R (j + 1) → Fr g L h m' → News g L h ((I, o') :: tl') → (∀ p ∈ tl', p.1 ≠ I) → J j m' tl' →
      wpAny (model prog w) A (assign target env v) (fun _ s₄ => wpAny (model prog w) A (execs body env) (WStep (FEnd g L I R s₀ J (j + 1)) Q) E s₄) E { s₀ with heap := h, toks := tk })
    (fin : ∀ m' tl' h tk, Fr g L h m' → News g L h tl' → J rs.length m' tl' → Q .next { s₀ with heap := h, toks := tk }) : ForAt prog w A env target body Q E (.ref I) s := by
  refine ⟨FiJ rs.length g L I R s₀ J, rs.length - j₀, ⟨j₀, h0, tk0, m, o, tl, rfl, hs, F, N, off, ho, hJ0⟩, hlet, ?_⟩
  rintro n _ ⟨j, h, tk, m', o', tl', rfl, rfl, F', N', off', ho', hj⟩
  have hl : h.IsList R rs.toArray := PySem.IsL.isList (n := nR) (N' _ (.tail _ (hJ _ _ _ hj))).1
  by_cases hlt : j < rs.length
  · obtain ⟨v, hv⟩ : ∃ v, rs[j]? = some v := ⟨rs[j], by simp [hlt]⟩
    have hlit : LIt o' R j := by
      rcases ho' with q | q
      · exact q.1
      · lia
    refine next_list (s := { s₀ with heap := h, toks := tk }) F' N' hlit off' hl hv fun h₁ o₁ F₁ N₁ ho₁ => ?_
    refine wpAny_mono (turn j m' tl' h₁ tk o₁ v hlt hv ho₁ F₁ N₁ off' hj) (fun _ s₄ h₄ => wpAny_mono h₄ (fun f s₅ h₅ => ?_) fun _ _ e => e) fun _ _ e => e
    have conv : FEnd g L I R s₀ J (j + 1) s₅ → ∃ n', n' < rs.length - j ∧ FiJ rs.length g L I R s₀ J n' s₅ := by
      rintro ⟨h, tk, m', o', tl', rfl, a1, a2, a3, a4, a5⟩
      exact ⟨_, by lia, j + 1, h, tk, m', o', tl', rfl, rfl, a1, a2, a3, .inl ⟨a4, hlt⟩, a5⟩
    cases f with
    | next => exact conv h₅
    | cont => exact conv h₅
    | brk => exact h₅
    | ret v => exact h₅
  · rcases ho' with ⟨q, hq⟩ | ⟨q, rfl⟩
    · have hje : j = rs.length := by lia
      subst hje
      exact next_list_end (s := { s₀ with heap := h, toks := tk }) hh F' N' q off' hl (by simp) fun h₁ F₁ N₁ => fin m' tl' h₁ tk F₁ N₁ hj
    · exact next_ended (s := { s₀ with heap := h, toks := tk }) hh (N' _ (.head _)).1 q fun h₁ up => fin m' tl' h₁ tk (F'.keeps up) (fun p hp => (N'.grown up) p (.tail _ hp)) hj
end
end Mine
end

section
-- RulesQ
open PySem PySem.W PyProof.Rows PySem.Calls PySem.Spec PyProof.Rows.LCg
set_option Elab.async false
set_option maxRecDepth 100000
set_option linter.unusedVariables false
namespace Mine
theorem oc {a c : Addr} {o : Obj} {l : List (Addr × Obj)} (h : a ≠ c) (r : ∀ p ∈ l, p.1 ≠ c) : ∀ p ∈ (a, o) :: l, p.1 ≠ c := List.forall_mem_cons.mpr ⟨h, r⟩
theorem oe {c : Addr} : ∀ p ∈ ([] : List (Addr × Obj)), p.1 ≠ c := fun _ h => (nomatch h)
theorem nc {h₀ h : Heap} {L : Addr} {x : Addr × Obj} {l : List (Addr × Obj)} (hx : h.get? x.1 = some x.2 ∧ x.1 ≠ L ∧ h₀.get? x.1 = none) (r : News h₀ L h l) : News h₀ L h (x :: l) := List.forall_mem_cons.mpr ⟨hx, r⟩
theorem ne' {h₀ h : Heap} {L : Addr} : News h₀ L h [] := fun _ h => (nomatch h)
theorem off_c {C D : Addr} {o : Obj} {io : Addr × Obj} {nb : List (Addr × Obj)} (hCD : C ≠ D) (hIC : io.1 ≠ C) (off : ∀ p ∈ nb, p.1 ≠ C ∧ p.1 ≠ D ∧ p.1 ≠ io.1) : ∀ p ∈ (D, o) :: io :: nb, p.1 ≠ C :=
  List.forall_mem_cons.mpr ⟨hCD.symm, List.forall_mem_cons.mpr ⟨hIC, fun p hp => (off p hp).1⟩⟩
theorem fn_ex {K : Frag} {h : Heap} {q : Addr} {o : Obj} {fd : FuncData} (X : K.In h) (e : K.lookup q = some o) (hd : o.data = .func fd) : ∃ fo fd, h.get? q = some fo ∧ fo.data = .func fd := ⟨o, fd, X q o e, hd⟩
theorem at_subv {prog : Program} {w : World} {A : Around} {E : Value → Shared → Prop} {s : Shared} {h₀ : Heap} {L D : Addr} {news : List (Addr × Obj)} {its : List Value} {n : Nat} {k : Int} {u : Tok} {v : Value} {value slice : PySem.Expr} {Q : Value → Shared → Prop} (N : News h₀ L s.heap news) (hm : (D, listOf its.toArray n) ∈ news) (h0 : 0 ≤ k) (h1 : k < its.length) (hz : its.length < 1000)
    (hv : its.getD k.toNat .none = v) (h : Q v s) (hs : subscripted slice false (.ref D) (.int k u) = operate [.ref D, .int k u] (getItem (.ref D) (.int k u)) := by with_unfolding_all rfl) :
    wpAny (model prog w) A (subscriptTail value slice (.ref D) (.int k u)) Q E s := at_sub N hm h0 h1 (by lia) (by rw [hv]; exact h) hs
theorem at_subn {prog : Program} {w : World} {A : Around} {E : Value → Shared → Prop} {s : Shared} {h₀ : Heap} {L D : Addr} {news : List (Addr × Obj)} {its : List Value} {n k : Nat} {u : Tok} {v : Value} {value slice : PySem.Expr} {Q : Value → Shared → Prop} (N : News h₀ L s.heap news) (hm : (D, listOf its.toArray n) ∈ news) (h1 : k < its.length) (hz : its.length < 1000)
    (hv : its.getD k .none = v) (h : Q v s) (hs : subscripted slice false (.ref D) (.int (k : Int) u) = operate [.ref D, .int (k : Int) u] (getItem (.ref D) (.int (k : Int) u)) := by with_unfolding_all rfl) :
    wpAny (model prog w) A (subscriptTail value slice (.ref D) (.int (k : Int) u)) Q E s := at_subv N hm (Int.natCast_nonneg k) (by lia) hz (by rw [Int.toNat_natCast]; exact hv) h hs
theorem fr_abs {h₀ h : Heap} {L : Addr} {m : Str → Option Value} (F : Fr h₀ L h m) (ps : List (Str × Value)) (e : ∀ p ∈ ps, m p.1 = some p.2) : ∃ m0 : Str → Option Value, Fr h₀ L h (putM m0 ps) := ⟨m, puts F ps e⟩
section
variable {prog : Program} {w : World} {A : Around} {E : Value → Shared → Prop} {s : Shared} {h₀ : Heap} {L C : Addr} {m m₂ : Str → Option Value} {scope : Scope} {cl : List (Str × Addr)} {env : Env} {oC : Obj} {nw : List (Addr × Obj)}
theorem asg3 {x1 x2 x3 : Str} {p1 p2 p3 tp : Pos} {kk : Nat} {a : Addr} {v1 v2 v3 : Value} {Q : Unit → Shared → Prop} (hh : A.handled = none) (hk : scope.kind = .function) (hx1 : scope.names.lookup x1 = some .local) (hx2 : scope.names.lookup x2 = some .local) (hx3 : scope.names.lookup x3 = some .local)
    (F : Fr h₀ L s.heap m) (N : News h₀ L s.heap ((C, oC) :: nw)) (hoC : NsObj oC m₂) (off : ∀ p ∈ nw, p.1 ≠ C) (ht : IsTup s.heap a #[v1, v2, v3])
    (h : ∀ h' oC' tk', Fr h₀ L h' m → News h₀ L h' ((C, oC') :: nw) → NsObj oC' (fun z => if z = x3 then some v3 else if z = x2 then some v2 else if z = x1 then some v1 else m₂ z) → Q () { s with heap := h', toks := tk' }) :
    wpAny (model prog w) A (assign (.Tuple [.Name x1 p1, .Name x2 p2, .Name x3 p3] kk tp) (compEnvC scope cl C env) (.ref a)) Q E s := by
  refine unpackN_ F N ht hh rfl rfl fun h₄ F₄ N₄ => ?_
  show wpAny _ _ (assignInOrder [fun v => assign (.Name x1 p1) (compEnvC scope cl C env) v, fun v => assign (.Name x2 p2) (compEnvC scope cl C env) v, fun v => assign (.Name x3 p3) (compEnvC scope cl C env) v] [v1, v2, v3]) _ _ _
  refine assignInOrder_cons (wpAny_assign_Name (store_comp hx1 hk F₄ N₄ hoC off fun h₅ oC₅ F₅ N₅ hoC₅ => ?_))
  refine assignInOrder_cons (wpAny_assign_Name (store_comp hx2 hk F₅ N₅ hoC₅ off fun h₆ oC₆ F₆ N₆ hoC₆ => ?_))
  refine assignInOrder_cons (wpAny_assign_Name (store_comp hx3 hk F₆ N₆ hoC₆ off fun h₇ oC₇ F₇ N₇ hoC₇ => ?_))
  exact assignInOrder_nil (h h₇ oC₇ _ F₇ N₇ hoC₇)
theorem asg1 {x : Str} {p : Pos} {v : Value} {Q : Unit → Shared → Prop} (hk : scope.kind = .function) (hx : scope.names.lookup x = some .local)
    (F : Fr h₀ L s.heap m) (N : News h₀ L s.heap ((C, oC) :: nw)) (hoC : NsObj oC m₂) (off : ∀ p ∈ nw, p.1 ≠ C)
    (h : ∀ h' oC', Fr h₀ L h' m → News h₀ L h' ((C, oC') :: nw) → NsObj oC' (fun z => if z = x then some v else m₂ z) → Q () { s with heap := h', toks := s.toks + 1 }) :
    wpAny (model prog w) A (assign (.Name x p) (compEnvC scope cl C env) v) Q E s :=
  wpAny_assign_Name (store_comp hx hk F N hoC off h)
end
end Mine
end

section
-- PureH
open PySem
set_option Elab.async false
namespace Mine
theorem getD_set {l : List Value} {p i : Nat} {v : Value} (hp : p < l.length) : (l.set p v).getD i .none = if i = p then v else l.getD i .none := by
  by_cases h : i = p
  · subst h; simp [hp]
  · rw [if_neg h]; simp only [List.getD_eq_getElem?_getD]; rw [List.getElem?_set_ne (Ne.symm h)]
theorem set_swap {l : List Value} {p c : Nat} {x : Value} (hp : p < l.length) (hc : c < l.length) (hn : c ≠ p) : ((l.set p (l.getD c .none)).set c x).Perm (l.set p x) := by
  have h := List.set_set_perm (as := l.set p x) (i := p) (j := c) (by simpa using hp) (by simpa using hc)
  have e1 : (l.set p x)[c]'(by simpa using hc) = l.getD c .none := by rw [List.getElem_set_ne (Ne.symm hn)]; simp [hc]
  have e2 : (l.set p x)[p]'(by simpa using hp) = x := by simp
  rw [e1, e2, List.set_set] at h
  exact h
theorem set_self {l : List Value} {p : Nat} (hp : p < l.length) : l.set p (l.getD p .none) = l := by
  have : l.getD p .none = l[p] := by simp [hp]
  rw [this]; exact List.set_getElem_self hp
theorem suL_perm {lt : Value → Value → Bool} {x : Value} : ∀ (f : Nat) (cur : List Value) (p : Nat), cur.length - p = f → p < cur.length → ((suL lt cur p).1.set (suL lt cur p).2 x).Perm (cur.set p x) := by
  intro f
  induction f using Nat.strongRecOn with
  | ind f ih =>
    intro cur p hf hp
    by_cases h : 2 * p + 1 < cur.length
    · rw [suL_go h]
      have h1 := pick_ge (lt := lt) (cur := cur) (c := 2 * p + 1)
      have h2 := pick_lt (lt := lt) (cur := cur) (c := 2 * p + 1) h
      refine (ih (cur.length - pick lt cur (2 * p + 1)) (by lia) _ _ (by rw [List.length_set]) (by rw [List.length_set]; exact h2)).trans ?_
      exact set_swap hp h2 (by lia)
    · rw [suL_end h]
theorem sdF_perm {lt : Value → Value → Bool} {i : Nat} {x : Value} : ∀ (p : Nat) (cur : List Value), p < cur.length → (sdF lt i x cur p).Perm (cur.set p x) := by
  intro p
  induction p using Nat.strongRecOn with
  | ind p ih =>
    intro cur hp
    rw [sdF]
    split
    · split
      · exact (ih _ (by lia) _ (by rw [List.length_set]; lia)).trans (set_swap hp (by lia) (by lia))
      · exact .refl _
    · exact .refl _
theorem suF_perm {lt : Value → Value → Bool} {cur : List Value} {p : Nat} (hp : p < cur.length) : (suF lt cur p).Perm cur := by
  unfold suF
  have hb := (suL_mem (S := fun _ => True) (lt := lt) _ cur p rfl hp (fun _ _ => trivial)).2
  have hl := suL_length (lt := lt) _ cur p rfl
  refine (sdF_perm _ _ (by rw [List.length_set, hl]; exact hb)).trans ?_
  rw [List.set_set]
  refine (suL_perm _ cur p rfl hp).trans ?_
  rw [set_self hp]
theorem hfF_perm {lt : Value → Value → Bool} : ∀ (k : Nat) (cur : List Value), k ≤ cur.length → (hfF lt k cur).Perm cur
  | 0, _, _ => .refl _
  | k + 1, cur, h => (hfF_perm k (suF lt cur k) (by rw [suF_length]; lia)).trans (suF_perm (by lia))

/-- the order's laws -/
structure VO (lt : Value → Value → Bool) : Prop where
  asym : ∀ a b, lt a b = true → lt b a = false
  tr : ∀ a b c, lt a b = true → lt b c = true → lt a c = true
  le : ∀ a b c, lt b a = false → lt c b = false → lt c a = false
inductive Desc (k : Nat) : Nat → Prop
  | refl : Desc k k
  | step {p c : Nat} : Desc k p → (c = 2 * p + 1 ∨ c = 2 * p + 2) → Desc k c
theorem Desc.ge {k p : Nat} (h : Desc k p) : k ≤ p := by
  induction h with
  | refl => exact Nat.le_refl _
  | step _ hc ih => lia
theorem Desc.up {k p : Nat} (h : Desc k p) (hp : k < p) : Desc k ((p - 1) / 2) := by
  cases h with
  | refl => lia
  | step hq hc =>
    rename_i q
    have : (p - 1) / 2 = q := by lia
    rw [this]; exact hq
/-- every pair (child i, its parent) with the parent from k on stands right, but for those at the hole p -/
noncomputable def HpE (lt : Value → Value → Bool) (k p : Nat) (cur : List Value) : Prop := ∀ i, 0 < i → i < cur.length → k ≤ (i - 1) / 2 → i ≠ p → (i - 1) / 2 ≠ p → lt (cur.getD i .none) (cur.getD ((i - 1) / 2) .none) = false
noncomputable def HpB (lt : Value → Value → Bool) (k p : Nat) (cur : List Value) : Prop := k < p → ∀ c, 0 < c → c < cur.length → (c - 1) / 2 = p → lt (cur.getD c .none) (cur.getD ((p - 1) / 2) .none) = false
noncomputable def Hp (lt : Value → Value → Bool) (k : Nat) (cur : List Value) : Prop := ∀ i, 0 < i → i < cur.length → k ≤ (i - 1) / 2 → lt (cur.getD i .none) (cur.getD ((i - 1) / 2) .none) = false
theorem sdF_hp {lt : Value → Value → Bool} (V : VO lt) {k : Nat} {x : Value} : ∀ (p : Nat) (cur : List Value), p < cur.length → Desc k p → HpE lt k p cur → HpB lt k p cur → (∀ c, 0 < c → c < cur.length → (c - 1) / 2 = p → lt (cur.getD c .none) x = false) → Hp lt k (sdF lt k x cur p) := by
  intro p
  induction p using Nat.strongRecOn with
  | ind p ih =>
    intro cur hp hd ha hb hc
    have stop : (k < p → lt x (cur.getD ((p - 1) / 2) .none) = false) → Hp lt k (cur.set p x) := fun hs i h0 hi hk => by
      rw [List.length_set] at hi
      rw [getD_set hp, getD_set hp]
      by_cases e1 : i = p
      · have e2 : ¬ (i - 1) / 2 = p := by lia
        rw [if_pos e1, if_neg e2, e1]
        exact hs (by lia)
      · rw [if_neg e1]
        by_cases e2 : (i - 1) / 2 = p
        · rw [if_pos e2]; exact hc i h0 hi e2
        · rw [if_neg e2]; exact ha i h0 hi hk e1 e2
    rw [sdF]
    by_cases h : k < p
    · rw [dif_pos h]
      by_cases hl : lt x (cur.getD ((p - 1) / 2) .none) = true
      · rw [if_pos hl]
        have hq : (p - 1) / 2 < p := by lia
        refine ih ((p - 1) / 2) hq _ (by rw [List.length_set]; lia) (hd.up h) ?_ ?_ ?_
        · intro i h0 hi hk n1 n2
          rw [List.length_set] at hi
          rw [getD_set hp, getD_set hp]
          by_cases e1 : i = p
          · subst e1; lia
          · rw [if_neg e1]
            by_cases e2 : (i - 1) / 2 = p
            · rw [if_pos e2]; exact hb h i h0 hi e2
            · rw [if_neg e2]; exact ha i h0 hi hk e1 e2
        · intro hkq c h0 hi hcq
          rw [List.length_set] at hi
          rw [getD_set hp, getD_set hp, if_neg (show ¬ ((p - 1) / 2 - 1) / 2 = p by lia)]
          have hqr := ha ((p - 1) / 2) (by lia) (by lia) (by have := (hd.up h).up hkq; exact this.ge) (by lia) (by lia)
          by_cases e1 : c = p
          · rw [if_pos e1]; exact hqr
          · rw [if_neg e1]
            have hcq' := ha c h0 hi (by rw [hcq]; lia) e1 (by lia)
            rw [hcq] at hcq'
            exact V.le _ _ _ hqr hcq'
        · intro c h0 hi hcq
          rw [List.length_set] at hi
          rw [getD_set hp]
          by_cases e1 : c = p
          · rw [if_pos e1]; exact V.asym _ _ hl
          · rw [if_neg e1]
            have hcq' := ha c h0 hi (by have := (hd.up h).ge; lia) e1 (by lia)
            rw [hcq] at hcq'
            exact V.le _ _ _ (V.asym _ _ hl) hcq'
      · rw [if_neg hl]
        exact stop fun _ => by simpa using hl
    · rw [dif_neg h]
      exact stop fun q => absurd q h
theorem pick_best {lt : Value → Value → Bool} (V : VO lt) {cur : List Value} {p i : Nat} (h0 : 0 < i) (hi : i < cur.length) (hip : (i - 1) / 2 = p) : lt (cur.getD i .none) (cur.getD (pick lt cur (2 * p + 1)) .none) = false := by
  have irr : ∀ v, lt v v = false := fun v => by
    cases q : lt v v with
    | false => rfl
    | true => have := V.asym _ _ q; rw [q] at this; exact this
  unfold pick
  by_cases c : 2 * p + 1 + 1 < cur.length ∧ lt (cur.getD (2 * p + 1) .none) (cur.getD (2 * p + 1 + 1) .none) = false
  · rw [if_pos c]
    rcases (by lia : i = 2 * p + 1 ∨ i = 2 * p + 1 + 1) with e | e <;> rw [e]
    · exact c.2
    · exact irr _
  · rw [if_neg c]
    rcases (by lia : i = 2 * p + 1 ∨ i = 2 * p + 1 + 1) with e | e <;> rw [e]
    · exact irr _
    · have : lt (cur.getD (2 * p + 1) .none) (cur.getD (2 * p + 1 + 1) .none) = true := by
        cases q : lt (cur.getD (2 * p + 1) .none) (cur.getD (2 * p + 1 + 1) .none) with
        | true => rfl
        | false => exact absurd ⟨by lia, q⟩ c
      exact V.asym _ _ this
theorem pick_or {lt : Value → Value → Bool} {cur : List Value} {p : Nat} : pick lt cur (2 * p + 1) = 2 * p + 1 ∨ pick lt cur (2 * p + 1) = 2 * p + 2 := by
  unfold pick; split <;> simp
theorem suL_hp {lt : Value → Value → Bool} (V : VO lt) {k : Nat} : ∀ (f : Nat) (cur : List Value) (p : Nat), cur.length - p = f → p < cur.length → Desc k p → HpE lt k p cur → HpB lt k p cur →
    HpE lt k (suL lt cur p).2 (suL lt cur p).1 ∧ HpB lt k (suL lt cur p).2 (suL lt cur p).1 ∧ Desc k (suL lt cur p).2 ∧ ¬ 2 * (suL lt cur p).2 + 1 < (suL lt cur p).1.length := by
  intro f
  induction f using Nat.strongRecOn with
  | ind f ih =>
    intro cur p hf hp hd ha hb
    by_cases h : 2 * p + 1 < cur.length
    · rw [suL_go h]
      have h1 := pick_ge (lt := lt) (cur := cur) (c := 2 * p + 1)
      have h2 := pick_lt (lt := lt) (cur := cur) (c := 2 * p + 1) h
      have h3 := pick_or (lt := lt) (cur := cur) (p := p)
      have h4 : (pick lt cur (2 * p + 1) - 1) / 2 = p := by lia
      generalize hq : pick lt cur (2 * p + 1) = c at *
      have hbest : ∀ i, 0 < i → i < cur.length → (i - 1) / 2 = p → lt (cur.getD i .none) (cur.getD c .none) = false := fun i a b e => by have := pick_best V (cur := cur) (p := p) a b e; rw [hq] at this; exact this
      have hge := hd.ge
      refine ih (cur.length - c) (by lia) (cur.set p (cur.getD c .none)) c (by rw [List.length_set]) (by rw [List.length_set]; exact h2) (hd.step h3) ?_ ?_
      · intro i h0 hi hk n1 n2
        rw [List.length_set] at hi
        rw [getD_set hp, getD_set hp]
        by_cases e1 : i = p
        · rw [if_pos e1, if_neg (by lia)]
          rw [e1]
          exact hb (by lia) c (by lia) h2 h4
        · rw [if_neg e1]
          by_cases e2 : (i - 1) / 2 = p
          · rw [if_pos e2]; exact hbest i h0 hi e2
          · rw [if_neg e2]; exact ha i h0 hi hk e1 e2
      · intro hkc d h0 hi hdc
        rw [List.length_set] at hi
        rw [getD_set hp, getD_set hp, if_neg (by lia), if_pos h4]
        have := ha d h0 hi (by lia) (by lia) (by lia)
        rw [hdc] at this
        exact this
    · rw [suL_end h]
      exact ⟨ha, hb, hd, h⟩
theorem suF_hp {lt : Value → Value → Bool} (V : VO lt) {k : Nat} {cur : List Value} (hk : k < cur.length) (h : Hp lt (k + 1) cur) : Hp lt k (suF lt cur k) := by
  unfold suF
  have hb := (suL_mem (S := fun _ => True) (lt := lt) _ cur k rfl hk (fun _ _ => trivial)).2
  have hl := suL_length (lt := lt) _ cur k rfl
  obtain ⟨a, b, c, d⟩ := suL_hp V _ cur k rfl hk .refl (fun i h0 hi hk' n1 n2 => h i h0 hi (by lia)) (fun q => absurd q (Nat.lt_irrefl _))
  have hlen : (suL lt cur k).2 < (suL lt cur k).1.length := by rw [hl]; exact hb
  refine sdF_hp V _ _ (by rw [List.length_set]; exact hlen) c ?_ ?_ ?_
  · intro i h0 hi hk' n1 n2
    rw [List.length_set] at hi
    rw [getD_set hlen, getD_set hlen, if_neg n1, if_neg n2]
    exact a i h0 hi hk' n1 n2
  · intro hkp q h0 hi hq
    rw [List.length_set] at hi
    lia
  · intro q h0 hi hq
    rw [List.length_set] at hi
    lia
theorem hfF_hp {lt : Value → Value → Bool} (V : VO lt) : ∀ (k : Nat) (cur : List Value), k ≤ cur.length → Hp lt k cur → Hp lt 0 (hfF lt k cur)
  | 0, _, _, h => h
  | k + 1, cur, hk, h => hfF_hp V k (suF lt cur k) (by rw [suF_length]; lia) (suF_hp V (by lia) h)
theorem heapify_hp {lt : Value → Value → Bool} (V : VO lt) (cur : List Value) : Hp lt 0 (hfF lt (cur.length / 2) cur) :=
  hfF_hp V _ cur (by lia) fun i h0 hi hk => by lia
theorem Hp.root {lt : Value → Value → Bool} (V : VO lt) {cur : List Value} (h : Hp lt 0 cur) : ∀ i, i < cur.length → lt (cur.getD i .none) (cur.getD 0 .none) = false := by
  intro i
  induction i using Nat.strongRecOn with
  | ind i ih =>
    intro hi
    by_cases h0 : i = 0
    · subst h0
      cases q : lt (cur.getD 0 .none) (cur.getD 0 .none) with
      | false => rfl
      | true => have := V.asym _ _ q; rw [q] at this; exact this
    · exact V.le _ _ _ (ih ((i - 1) / 2) (by lia) (by lia)) (h i (by lia) hi (Nat.zero_le _))
theorem push_hp {lt : Value → Value → Bool} (V : VO lt) {cur : List Value} {y : Value} (h : Hp lt 0 cur) : Hp lt 0 (sdF lt 0 y (cur ++ [y]) cur.length) := by
  have zero : ∀ p, Desc 0 p := fun p => by
    induction p using Nat.strongRecOn with
    | ind p ih =>
      by_cases h0 : p = 0
      · subst h0; exact .refl
      · exact .step (ih ((p - 1) / 2) (by lia)) (by lia)
  refine sdF_hp V _ _ (by simp) (zero _) ?_ ?_ ?_
  · intro i h0 hi _ n1 n2
    have hi' : i < cur.length := by simp at hi; lia
    have := h i h0 hi' (Nat.zero_le _)
    simp only [List.getD_eq_getElem?_getD] at this ⊢
    rw [List.getElem?_append_left hi', List.getElem?_append_left (show (i - 1) / 2 < cur.length by lia)]
    exact this
  · intro _ c h0 hi hc
    simp at hi; lia
  · intro c h0 hi hc
    simp at hi; lia
theorem push_perm {lt : Value → Value → Bool} {cur : List Value} {y : Value} : (sdF lt 0 y (cur ++ [y]) cur.length).Perm (cur ++ [y]) := by
  refine (sdF_perm _ _ (by simp)).trans ?_
  have : (cur ++ [y]).set cur.length y = cur ++ [y] := by simp
  rw [this]
theorem replace_hp {lt : Value → Value → Bool} (V : VO lt) {cur : List Value} {y : Value} (h : Hp lt 0 cur) (h0 : 0 < cur.length) : Hp lt 0 (suF lt (cur.set 0 y) 0) := by
  refine suF_hp V (by simpa using h0) fun i hi hl hk => ?_
  rw [List.length_set] at hl
  rw [getD_set h0, getD_set h0, if_neg (by lia), if_neg (by lia)]
  exact h i hi hl (Nat.zero_le _)
end Mine
end

section
-- PureB
open PySem
set_option Elab.async false
set_option linter.unusedVariables false
namespace Mine
section
variable {lt : Nat → Nat → Bool}
noncomputable def befb (lt : Nat → Nat → Bool) (i j : Nat) : Bool := lt i j || (!lt j i && decide (i < j))
theorem befb_iff {i j : Nat} : befb lt i j = true ↔ bef lt i j := by unfold befb bef; simp
theorem bef_irr (W : SWO lt) {a : Nat} (h : bef lt a a) : False := by
  rcases h with h | h
  · rw [W.irr] at h; cases h
  · lia
theorem bef_asym (W : SWO lt) {a b : Nat} (h : bef lt a b) (h' : bef lt b a) : False := bef_irr W (bef_tr W h h')
theorem bef_total (W : SWO lt) {a b : Nat} (h : a ≠ b) : bef lt a b ∨ bef lt b a := by
  cases q : lt a b with
  | true => exact .inl (.inl q)
  | false =>
    cases r : lt b a with
    | true => exact .inr (.inl r)
    | false =>
      rcases Nat.lt_or_gt_of_ne h with c | c
      · exact .inl (.inr ⟨r, c⟩)
      · exact .inr (.inr ⟨q, c⟩)
noncomputable def rank (lt : Nat → Nat → Bool) (N k : Nat) : Nat := (List.range N).countP fun y => befb lt y k
theorem countP_lt {p q : Nat → Bool} : ∀ {l : List Nat}, (∀ y ∈ l, p y = true → q y = true) → ∀ a ∈ l, p a = false → q a = true → l.countP p < l.countP q
  | [], _, _, h, _, _ => nomatch h
  | y :: l, h, a, ha, pa, qa => by
    have hle : l.countP p ≤ l.countP q := List.countP_mono_left fun x hx => h x (.tail _ hx)
    have hy := h y (.head _)
    rcases List.mem_cons.mp ha with rfl | ha
    · rw [List.countP_cons_of_neg (by rw [pa]; exact Bool.false_ne_true), List.countP_cons_of_pos qa]; lia
    · have ih := countP_lt (fun x hx => h x (.tail _ hx)) a ha pa qa
      cases py : p y with
      | false =>
        rw [List.countP_cons_of_neg (by rw [py]; exact Bool.false_ne_true)]
        cases qy : q y with
        | false => rw [List.countP_cons_of_neg (by rw [qy]; exact Bool.false_ne_true)]; exact ih
        | true => rw [List.countP_cons_of_pos qy]; lia
      | true => rw [List.countP_cons_of_pos py, List.countP_cons_of_pos (hy py)]; lia
theorem rank_mono (W : SWO lt) {N a b : Nat} (ha : a < N) (h : bef lt a b) : rank lt N a < rank lt N b := by
  refine countP_lt (fun y _ hy => befb_iff.mpr (bef_tr W (befb_iff.mp hy) h)) a (List.mem_range.mpr ha) ?_ (befb_iff.mpr h)
  cases q : befb lt a a with
  | false => rfl
  | true => exact (bef_irr W (befb_iff.mp q)).elim
theorem rank_inj (W : SWO lt) {N a b : Nat} (ha : a < N) (hb : b < N) (h : rank lt N a = rank lt N b) : a = b := by
  by_cases e : a = b
  · exact e
  · rcases bef_total W e with q | q
    · have := rank_mono W ha q; lia
    · have := rank_mono W hb q; lia
theorem rank_lt (W : SWO lt) {N a : Nat} (ha : a < N) : rank lt N a < N := by
  have : rank lt N a < (List.range N).countP fun _ => true := by
    refine countP_lt (fun _ _ _ => rfl) a (List.mem_range.mpr ha) ?_ rfl
    cases q : befb lt a a with
    | false => rfl
    | true => exact (bef_irr W (befb_iff.mp q)).elim
  simpa using this
/-- the first ones of the order, in order -/
structure Best (lt : Nat → Nat → Bool) (N : Nat) (Y : List Nat) : Prop where
  ord : Y.Pairwise (bef lt)
  low : ∀ x ∈ Y, x < N
  top : ∀ x ∈ Y, ∀ y, y < N → y ∉ Y → bef lt x y
theorem Best.nodup (W : SWO lt) {N : Nat} {Y : List Nat} (h : Best lt N Y) : Y.Nodup :=
  List.nodup_iff_pairwise_ne.mpr (h.ord.imp fun hb e => by subst e; exact bef_irr W hb)
theorem Best.rank (W : SWO lt) {N : Nat} {Y : List Nat} (h : Best lt N Y) (i : Nat) (hi : i < Y.length) : rank lt N Y[i] = i := by
  have hp := List.pairwise_iff_getElem.mp h.ord
  unfold Mine.rank
  rw [List.countP_eq_length_filter]
  have : ((List.range N).filter fun y => befb lt y Y[i]).Perm (Y.take i) := by
    refine (List.perm_ext_iff_of_nodup (List.Pairwise.sublist List.filter_sublist List.nodup_range) (List.Pairwise.sublist (List.take_sublist _ _) (h.nodup W))).mpr fun y => ?_
    rw [List.mem_filter, List.mem_range, befb_iff, List.mem_take_iff_getElem]
    constructor
    · rintro ⟨hy, hb⟩
      by_cases hm : y ∈ Y
      · obtain ⟨j, hj, rfl⟩ := List.getElem_of_mem hm
        refine ⟨j, ?_, rfl⟩
        rcases Nat.lt_trichotomy j i with c | c | c
        · lia
        · subst c; exact (bef_irr W hb).elim
        · exact (bef_asym W hb (hp i j hi hj c)).elim
      · exact (bef_asym W hb (h.top _ (List.getElem_mem hi) y hy hm)).elim
    · rintro ⟨j, hj, rfl⟩
      have hj' : j < Y.length := by lia
      exact ⟨h.low _ (List.getElem_mem hj'), hp j i hj' hi (by lia)⟩
  rw [this.length_eq, List.length_take]; lia
/-- what the law's order says of a list -/
noncomputable def Ranked {α : Type} (lt : Nat → Nat → Bool) (row out : List α) : Prop := out.length = row.length ∧ ∀ k, k < row.length → out[rank lt row.length k]? = row[k]?
theorem Best.take_eq {α : Type} {d : α} (W : SWO lt) {row out : List α} {Y : List Nat} (h : Best lt row.length Y) (R : Ranked lt row out) : Y.map (fun i => row.getD i d) = out.take Y.length := by
  apply List.ext_getElem?
  intro i
  rw [List.getElem?_map, List.getElem?_take]
  by_cases hi : i < Y.length
  · rw [if_pos hi, List.getElem?_eq_getElem hi]
    have hk : Y[i] < row.length := h.low _ (List.getElem_mem hi)
    have := R.2 _ hk
    rw [h.rank W i hi] at this
    rw [this]
    simp [hk]
  · rw [if_neg hi, List.getElem?_eq_none (by lia)]; rfl
theorem Best.length_le {N : Nat} {Y : List Nat} (W : SWO lt) (h : Best lt N Y) : Y.length ≤ N := by
  have := List.Nodup.length_le_of_subset (h.nodup W) (l₂ := List.range N) fun x hx => List.mem_range.mpr (h.low x hx)
  simpa using this
theorem Best.nil {N : Nat} : Best lt N [] := ⟨.nil, fun _ h => (nomatch h), fun _ h => (nomatch h)⟩
theorem Best.one {N i : Nat} (hi : i < N) (h1 : ∀ k, k < N → lt k i = false) (h2 : ∀ k, k < i → lt i k = true) : Best lt N [i] :=
  ⟨List.pairwise_singleton _ _, fun x hx => by rw [List.mem_singleton.mp hx]; exact hi, fun x hx y hy hn => by
    rw [List.mem_singleton.mp hx]
    have : y ≠ i := fun e => hn (by rw [e]; exact .head _)
    rcases Nat.lt_or_gt_of_ne this with c | c
    · exact .inl (h2 y c)
    · exact .inr ⟨h1 y hy, c⟩⟩
theorem Best.full (W : SWO lt) {N : Nat} {Y : List Nat} (ho : Y.Pairwise (bef lt)) (hp : Y.Perm (List.range N)) : Best lt N Y :=
  ⟨ho, fun x hx => List.mem_range.mp (hp.mem_iff.mp hx), fun x _ y hy hn => absurd (hp.mem_iff.mpr (List.mem_range.mpr hy)) hn⟩
theorem Best.ext {N : Nat} {Y : List Nat} {lt' : Nat → Nat → Bool} (h : Best lt N Y) (e : ∀ a b, a < N → b < N → lt a b = lt' a b) : Best lt' N Y := by
  have hb : ∀ a b, a < N → b < N → bef lt a b → bef lt' a b := fun a b ha hb => by
    unfold bef; rw [e a b ha hb, e b a hb ha]; exact id
  refine ⟨?_, h.low, fun x hx y hy hn => hb _ _ (h.low x hx) hy (h.top x hx y hy hn)⟩
  rw [List.pairwise_iff_getElem]
  intro i j hi hj hij
  exact hb _ _ (h.low _ (List.getElem_mem hi)) (h.low _ (List.getElem_mem hj)) (List.pairwise_iff_getElem.mp h.ord i j hi hj hij)
/-- what a sort's places say -/
theorem St.best (W : SWO lt) {N : Nat} {p : Array Nat} (h : St lt N p N) : Best lt N p.toList := by
  refine Best.full W ?_ ?_
  · rw [List.pairwise_iff_getElem]
    intro i j hi hj hij
    have hs : p.toList.length = N := by rw [Array.length_toList]; exact h.sz
    have := h.ord i j hij (by lia)
    have e : ∀ k (hk : k < p.toList.length), at' p k = p.toList[k] := fun k hk => by
      have hk' : k < p.size := by rw [← Array.length_toList]; exact hk
      simp [at', Array.getD, hk']
    rw [e i hi, e j hj] at this
    exact this
  · have := h.perm
    rw [Array.perm_iff_toList_perm] at this
    simpa using this
end
end Mine
end

section
-- PureC
open PySem
set_option Elab.async false
set_option linter.unusedVariables false
namespace Mine
section
variable {lt : Nat → Nat → Bool}
structure Kept (lt : Nat → Nat → Bool) (j : Nat) (cur : List Value) (g : Value → Nat) : Prop where
  nd : (cur.map g).Nodup
  low : ∀ v ∈ cur, g v < j
  top : ∀ v ∈ cur, ∀ y, y < j → y ∉ cur.map g → bef lt (g v) y
theorem Kept.perm {j : Nat} {cur cur' : List Value} {g : Value → Nat} (h : Kept lt j cur g) (p : cur'.Perm cur) : Kept lt j cur' g :=
  ⟨((p.map g).nodup_iff).mpr h.nd, fun v hv => h.low v (p.mem_iff.mp hv), fun v hv y hy hn => h.top v (p.mem_iff.mp hv) y hy fun q => hn ((p.map g).mem_iff.mpr q)⟩
theorem Kept.start {j : Nat} {cur : List Value} {g : Value → Nat} (h : cur.map g = List.range j) : Kept lt j cur g :=
  ⟨by rw [h]; exact List.nodup_range, fun v hv => by have := List.mem_map_of_mem (f := g) hv; rw [h] at this; exact List.mem_range.mp this, fun v hv y hy hn => by rw [h] at hn; exact absurd (List.mem_range.mpr hy) hn⟩
theorem Kept.stay (W : SWO lt) {j : Nat} {cur : List Value} {g : Value → Nat} {r : Value} (h : Kept lt j cur g) (hr : r ∈ cur) (worst : ∀ v ∈ cur, g v = g r ∨ bef lt (g v) (g r)) (hl : lt j (g r) = false) : Kept lt (j + 1) cur g :=
  ⟨h.nd, fun v hv => Nat.lt_succ_of_lt (h.low v hv), fun v hv y hy hn => by
    by_cases e : y = j
    · subst e
      have hb : bef lt (g r) y := .inr ⟨hl, h.low r hr⟩
      rcases worst v hv with q | q
      · rw [q]; exact hb
      · exact bef_tr W q hb
    · exact h.top v hv y (by lia) hn⟩
theorem Kept.swap (W : SWO lt) {j : Nat} {r v' : Value} {rest cur' : List Value} {g g' : Value → Nat} (h : Kept lt j (r :: rest) g) (worst : ∀ v ∈ r :: rest, g v = g r ∨ bef lt (g v) (g r)) (hl : lt j (g r) = true)
    (hg : ∀ v ∈ r :: rest, g' v = g v) (hg' : g' v' = j) (p : cur'.Perm (v' :: rest)) : Kept lt (j + 1) cur' g' := by
  have em : rest.map g' = rest.map g := List.map_congr_left fun v hv => hg v (.tail _ hv)
  have nd := h.nd
  rw [List.map_cons, List.nodup_cons] at nd
  refine Kept.perm ⟨?_, ?_, ?_⟩ p
  · rw [List.map_cons, List.nodup_cons, em, hg']
    refine ⟨fun q => ?_, nd.2⟩
    obtain ⟨v, hv, e⟩ := List.mem_map.mp q
    have := h.low v (.tail _ hv); lia
  · intro v hv
    rcases List.mem_cons.mp hv with rfl | hv
    · rw [hg']; lia
    · rw [hg v (.tail _ hv)]; have := h.low v (.tail _ hv); lia
  · intro v hv y hy hn
    rw [List.map_cons, em, hg', List.mem_cons, not_or] at hn
    have hyj : y < j := by lia
    by_cases e : y = g r
    · subst e
      rcases List.mem_cons.mp hv with rfl | hv
      · rw [hg']; exact .inl hl
      · rw [hg v (.tail _ hv)]
        rcases worst v (.tail _ hv) with q | q
        · exact absurd (q ▸ List.mem_map_of_mem hv) nd.1
        · exact q
    · have hn' : y ∉ (r :: rest).map g := by rw [List.map_cons, List.mem_cons, not_or]; exact ⟨e, hn.2⟩
      rcases List.mem_cons.mp hv with rfl | hv
      · rw [hg']; exact bef_tr W (.inl hl) (h.top r (.head _) y hyj hn')
      · rw [hg v (.tail _ hv)]; exact h.top v (.tail _ hv) y hyj hn'
structure Rel (ky tx : Nat → Str) (f : Value → It) (g : Value → Nat) (o : Value → Int) (cur : List Value) (bd : Int) : Prop where
  key : ∀ v ∈ cur, (f v).key = ky (g v)
  el : ∀ v ∈ cur, (f v).el = tx (g v)
  ord : ∀ v ∈ cur, ∀ u ∈ cur, o v < o u ↔ g v < g u
  bnd : ∀ v ∈ cur, o v < bd
variable {ky tx : Nat → Str} {f f' : Value → It} {g g' : Value → Nat} {o o' : Value → Int} {cur : List Value} {bd : Int}
theorem Rel.perm {cur' : List Value} (h : Rel ky tx f g o cur bd) (p : cur'.Perm cur) : Rel ky tx f g o cur' bd :=
  ⟨fun v hv => h.key v (p.mem_iff.mp hv), fun v hv => h.el v (p.mem_iff.mp hv), fun v hv u hu => h.ord v (p.mem_iff.mp hv) u (p.mem_iff.mp hu), fun v hv => h.bnd v (p.mem_iff.mp hv)⟩
theorem Rel.more {v' : Value} {rest : List Value} (h : Rel ky tx f g o rest bd) (low : ∀ v ∈ rest, g v < g' v') (ef : ∀ v ∈ rest, f' v = f v) (eg : ∀ v ∈ rest, g' v = g v) (eo : ∀ v ∈ rest, o' v = o v)
    (k1 : (f' v').key = ky (g' v')) (k2 : (f' v').el = tx (g' v')) (k3 : o' v' = bd) : Rel ky tx f' g' o' (v' :: rest) (bd + 1) := by
  refine ⟨fun v hv => ?_, fun v hv => ?_, fun v hv u hu => ?_, fun v hv => ?_⟩
  · rcases List.mem_cons.mp hv with rfl | hv
    · exact k1
    · rw [ef v hv, eg v hv]; exact h.key v hv
  · rcases List.mem_cons.mp hv with rfl | hv
    · exact k2
    · rw [ef v hv, eg v hv]; exact h.el v hv
  · rcases List.mem_cons.mp hv with e | hv <;> rcases List.mem_cons.mp hu with e' | hu
    · rw [e, e']; lia
    · rw [e, eo u hu, eg u hu, k3]
      have := h.bnd u hu; have := low u hu; lia
    · rw [e', eo v hv, eg v hv, k3]
      have := h.bnd v hv; have := low v hv; lia
    · rw [eo v hv, eg v hv, eo u hu, eg u hu]; exact h.ord v hv u hu
  · rcases List.mem_cons.mp hv with rfl | hv
    · lia
    · rw [eo v hv]; have := h.bnd v hv; lia
theorem Rel.sub {rest : List Value} (h : Rel ky tx f g o cur bd) (e : ∀ v ∈ rest, v ∈ cur) : Rel ky tx f g o rest bd :=
  ⟨fun v hv => h.key v (e v hv), fun v hv => h.el v (e v hv), fun v hv u hu => h.ord v (e v hv) u (e u hu), fun v hv => h.bnd v (e v hv)⟩
theorem Rel.same (h : Rel ky tx f g o cur bd) {v u : Value} (hv : v ∈ cur) (hu : u ∈ cur) (e : o v = o u) : (f v).el = (f u).el := by
  have h1 := h.ord v hv u hu
  have h2 := h.ord u hu v hv
  have : g v = g u := by lia
  rw [h.el v hv, h.el u hu, this]
noncomputable abbrev ltS (ky : Nat → Str) (i j : Nat) : Bool := slt (ky i) (ky j)
noncomputable abbrev ltL (ky : Nat → Str) (i j : Nat) : Bool := sgt (ky i) (ky j)
theorem swoS : SWO (ltS ky) := ⟨fun _ => slt_irr _, fun _ _ _ => slt_tr _ _ _, fun _ _ _ => slt_nt _ _ _⟩
theorem swoL : SWO (ltL ky) := ⟨fun _ => slt_irr _, fun a b c h1 h2 => slt_tr _ _ _ h2 h1, fun a b c h => (slt_nt _ _ _ h).symm⟩
theorem Rel.small (h : Rel ky tx f g (fun v => (f v).ord) cur bd) {v u : Value} (hv : v ∈ cur) (hu : u ∈ cur) : ilt (f v) (f u) = true ↔ bef (ltS ky) (g v) (g u) := by
  rw [ilt_iff, h.key v hv, h.key u hu]
  unfold bef ltS
  have ho := h.ord v hv u hu
  constructor
  · rintro (q | ⟨q, q'⟩)
    · exact .inl q
    · exact .inr ⟨by rw [q]; exact slt_irr _, ho.mp q'⟩
  · rintro (q | ⟨q, q'⟩)
    · exact .inl q
    · cases e : slt (ky (g v)) (ky (g u)) with
      | true => exact .inl rfl
      | false => exact .inr ⟨slt_total _ _ e q, ho.mpr q'⟩
theorem Rel.large (h : Rel ky tx f g (fun v => -(f v).ord) cur bd) {v u : Value} (hv : v ∈ cur) (hu : u ∈ cur) : ilt (f v) (f u) = true ↔ bef (ltL ky) (g u) (g v) := by
  rw [ilt_iff, h.key v hv, h.key u hu]
  unfold bef ltL sgt
  have ho := h.ord u hu v hv
  constructor
  · rintro (q | ⟨q, q'⟩)
    · exact .inl q
    · exact .inr ⟨by rw [q]; exact slt_irr _, ho.mp (by lia)⟩
  · rintro (q | ⟨q, q'⟩)
    · exact .inl q
    · cases e : slt (ky (g v)) (ky (g u)) with
      | true => exact .inl rfl
      | false => exact .inr ⟨slt_total _ _ e q, by have := ho.mpr q'; lia⟩
theorem map_range {l : List Value} : (List.range l.length).map (fun i => l.getD i .none) = l := by
  apply List.ext_getElem
  · simp
  · intro i h1 h2; simp [List.getD, h2]
theorem fin_gen {R : Value → Value → Bool} {Bf : Nat → Nat → Prop} (hR : ∀ v ∈ cur, ∀ u ∈ cur, R v u = true ↔ Bf (g v) (g u)) (tot : ∀ a b, a ≠ b → Bf a b ∨ Bf b a) (nd : (cur.map g).Nodup) {p : Array Nat}
    (hs : St (fun i j => R (cur.getD i .none) (cur.getD j .none)) cur.length p cur.length) :
    ((p.toList.map fun i => cur.getD i .none).map g).Pairwise Bf ∧ (p.toList.map fun i => cur.getD i .none).Perm cur := by
  have hp : p.toList.Perm (List.range cur.length) := by
    have := hs.perm
    rw [Array.perm_iff_toList_perm] at this
    simpa using this
  refine ⟨?_, (hp.map _).trans (by rw [map_range])⟩
  rw [List.pairwise_iff_getElem]
  intro i j hi hj hij
  simp only [List.length_map, Array.length_toList] at hi hj
  simp only [List.getElem_map, Array.getElem_toList]
  have hz := hs.sz
  have ei : at' p i = p[i] := by simp [at', Array.getD, hi]
  have ej : at' p j = p[j] := by simp [at', Array.getD, hj]
  have hli : p[i] < cur.length := by rw [← ei]; exact hs.low i (by lia)
  have hlj : p[j] < cur.length := by rw [← ej]; exact hs.low j (by lia)
  have hb := hs.ord i j hij (by lia)
  rw [ei, ej] at hb
  have mi := getD_mem hli
  have mj := getD_mem hlj
  rcases hb with q | ⟨q, q'⟩
  · exact (hR _ mi _ mj).mp q
  · have hne : g (cur.getD p[i] .none) ≠ g (cur.getD p[j] .none) := fun e => by
      have := List.pairwise_iff_getElem.mp (List.nodup_iff_pairwise_ne.mp nd) p[i] p[j] (by simpa using hli) (by simpa using hlj) q'
      apply this
      simpa [List.getD, hli, hlj] using e
    rcases tot _ _ hne with z | z
    · exact z
    · have := (hR _ mj _ mi).mpr z
      have q2 : R (cur.getD p[j] .none) (cur.getD p[i] .none) = false := q
      rw [this] at q2; cases q2
theorem Kept.best {j : Nat} {out : List Value} (h : Kept lt j cur g) (p : out.Perm cur) (ho : (out.map g).Pairwise (bef lt)) : Best lt j (out.map g) := by
  have h' := h.perm p
  refine ⟨ho, fun x hx => ?_, fun x hx y hy hn => ?_⟩
  · obtain ⟨v, hv, rfl⟩ := List.mem_map.mp hx; exact h'.low v hv
  · obtain ⟨v, hv, rfl⟩ := List.mem_map.mp hx; exact h'.top v hv y hy hn
theorem fin_small {N : Nat} (h : Kept (ltS ky) N cur g) (r : Rel ky tx f g (fun v => (f v).ord) cur bd) {p : Array Nat}
    (hs : St (fun i j => ilt (f (cur.getD i .none)) (f (cur.getD j .none))) cur.length p cur.length) :
    Best (ltS ky) N ((p.toList.map fun i => cur.getD i .none).map g) ∧ (p.toList.map fun i => cur.getD i .none).Perm cur := by
  obtain ⟨a, b⟩ := fin_gen (R := fun v u => ilt (f v) (f u)) (fun v hv u hu => r.small hv hu) (fun a b e => bef_total swoS e) h.nd hs
  exact ⟨h.best b a, b⟩
theorem fin_large {N : Nat} (h : Kept (ltL ky) N cur g) (r : Rel ky tx f g (fun v => -(f v).ord) cur bd) {p : Array Nat}
    (hs : St (fun i j => ilt (f (cur.reverse.getD i .none)) (f (cur.reverse.getD j .none))) cur.length p cur.length) :
    Best (ltL ky) N ((p.toList.map fun i => cur.reverse.getD i .none).reverse.map g) ∧ (p.toList.map fun i => cur.reverse.getD i .none).reverse.Perm cur := by
  have pr : cur.reverse.Perm cur := List.reverse_perm cur
  have h' := h.perm pr
  have r' := r.perm pr
  rw [← List.length_reverse (as := cur)] at hs
  obtain ⟨a, b⟩ := fin_gen (R := fun v u => ilt (f v) (f u)) (Bf := fun a b => bef (ltL ky) b a) (fun v hv u hu => r'.large hv hu) (fun a b e => (bef_total swoL e).symm) h'.nd hs
  have b' := (List.reverse_perm _).trans (b.trans pr)
  refine ⟨h.best b' ?_, b'⟩
  rw [List.map_reverse, List.pairwise_reverse]
  exact a
/-- the heap's order, the worst at its root -/
theorem vo_max : VO (fun x y => ilt (f y) (f x)) where
  asym a b h := by
    cases q : ilt (f a) (f b) with
    | false => rfl
    | true => have := ilt_tr _ _ _ h q; rw [ilt_irr] at this; cases this
  tr a b c h1 h2 := ilt_tr _ _ _ h2 h1
  le a b c h1 h2 := by
    cases q : ilt (f a) (f c) with
    | false => rfl
    | true =>
      rcases ilt_nt _ (f b) _ q with z | z
      · rw [h1] at z; cases z
      · rw [h2] at z; cases z
theorem vo_min : VO (fun x y => ilt (f x) (f y)) where
  asym a b h := by
    cases q : ilt (f b) (f a) with
    | false => rfl
    | true => have := ilt_tr _ _ _ h q; rw [ilt_irr] at this; cases this
  tr a b c h1 h2 := ilt_tr _ _ _ h1 h2
  le a b c h1 h2 := by
    cases q : ilt (f c) (f a) with
    | false => rfl
    | true =>
      rcases ilt_nt _ (f b) _ q with z | z
      · rw [h2] at z; cases z
      · rw [h1] at z; cases z
theorem worst_small (r : Rel ky tx f g (fun v => (f v).ord) cur bd) (h : Hp (fun x y => ilt (f y) (f x)) 0 cur) (h0 : 0 < cur.length) : ∀ v ∈ cur, g v = g (cur.getD 0 .none) ∨ bef (ltS ky) (g v) (g (cur.getD 0 .none)) := by
  intro v hv
  by_cases e : g v = g (cur.getD 0 .none)
  · exact .inl e
  · rcases bef_total (swoS (ky := ky)) e with q | q
    · exact .inr q
    · obtain ⟨i, hi, rfl⟩ := List.getElem_of_mem hv
      have := Hp.root vo_max h i hi
      rw [show cur.getD i .none = cur[i] from by simp [hi]] at this
      have z := (r.small (getD_mem h0) hv).mpr q
      rw [this] at z; cases z
theorem worst_large (r : Rel ky tx f g (fun v => -(f v).ord) cur bd) (h : Hp (fun x y => ilt (f x) (f y)) 0 cur) (h0 : 0 < cur.length) : ∀ v ∈ cur, g v = g (cur.getD 0 .none) ∨ bef (ltL ky) (g v) (g (cur.getD 0 .none)) := by
  intro v hv
  by_cases e : g v = g (cur.getD 0 .none)
  · exact .inl e
  · rcases bef_total (swoL (ky := ky)) e with q | q
    · exact .inr q
    · obtain ⟨i, hi, rfl⟩ := List.getElem_of_mem hv
      have := Hp.root vo_min h i hi
      rw [show cur.getD i .none = cur[i] from by simp [hi]] at this
      have z := (r.large hv (getD_mem h0)).mpr q
      rw [this] at z; cases z
/-- sorted(.., key) and sorted(.., key, reverse) -/
theorem sorted_large {N : Nat} {p : Array Nat} (hs : St (fun i j => slt (ky (N - 1 - i)) (ky (N - 1 - j))) N p N) : Best (ltL ky) N (p.toList.map fun i => N - 1 - i).reverse := by
  have hb := St.best (swoS (ky := fun i => ky (N - 1 - i))) hs
  have hp : p.toList.Perm (List.range N) := by
    have := hs.perm
    rw [Array.perm_iff_toList_perm] at this
    simpa using this
  refine Best.full swoL ?_ ?_
  · rw [List.pairwise_reverse, List.pairwise_map]
    rw [List.pairwise_iff_getElem]
    intro i j hi hj hij
    have hi' := hb.low _ (List.getElem_mem hi)
    have hj' := hb.low _ (List.getElem_mem hj)
    rcases List.pairwise_iff_getElem.mp hb.ord i j hi hj hij with q | ⟨q, q'⟩
    · exact .inl q
    · exact .inr ⟨q, by lia⟩
  · refine (List.reverse_perm _).trans ((hp.map _).trans ?_)
    have : (List.range N).map (fun i => N - 1 - i) = (List.range N).reverse := by
      apply List.ext_getElem
      · simp
      · intro i h1 h2; simp
    rw [this]; exact List.reverse_perm _
end
end Mine
end

section
-- PureD
open PySem PySem.W PyProof.Rows
set_option Elab.async false
set_option linter.unusedVariables false
namespace Mine
noncomputable abbrev txt (ts : List Str) (i : Nat) : Str := ts.getD i Str.empty
noncomputable abbrev kyOf (ts : List Str) (i : Nat) : Str := inn (txt ts i)
noncomputable def upd {α : Type} (f : Value → α) (a : Addr) (x : α) (v : Value) : α := match v with | .ref b => if b = a then x else f v | _ => f v
theorem upd_self {α : Type} {f : Value → α} {a : Addr} {x : α} : upd f a x (.ref a) = x := by simp [upd]
theorem upd_ne {α : Type} {f : Value → α} {a b : Addr} {x : α} (h : b ≠ a) : upd f a x (.ref b) = f (.ref b) := by simp [upd, h]
structure TT (sg : Int → Int) (ts : List Str) (f : Value → It) (g : Value → Nat) (ys : List Value) (G : List (Addr × Obj)) (bd : Int) : Prop where
  tup : ∀ v ∈ ys, TupIn G v (f v)
  rel : Rel (kyOf ts) (txt ts) f g (fun v => sg (f v).ord) ys bd
theorem TT.old {sg : Int → Int} {ts : List Str} {f : Value → It} {g : Value → Nat} {ys : List Value} {G : List (Addr × Obj)} {bd : Int} {α : Type} {F : Value → α} {a : Addr} {x : α} (h : TT sg ts f g ys G bd) (ha : ∀ p ∈ G, p.1 ≠ a) : ∀ v ∈ ys, upd F a x v = F v := fun v hv => by
  obtain ⟨b, t1, t2, t3, n, rfl, hm⟩ := h.tup v hv
  exact upd_ne (ha _ hm)
theorem TT.perm {sg : Int → Int} {ts : List Str} {f : Value → It} {g : Value → Nat} {ys ys' : List Value} {G : List (Addr × Obj)} {bd : Int} (h : TT sg ts f g ys G bd) (p : ys'.Perm ys) : TT sg ts f g ys' G bd :=
  ⟨fun v hv => h.tup v (p.mem_iff.mp hv), h.rel.perm p⟩
theorem TT.mono {sg : Int → Int} {ts : List Str} {f : Value → It} {g : Value → Nat} {ys : List Value} {G G' : List (Addr × Obj)} {bd : Int} (h : TT sg ts f g ys G bd) (e : ∀ p ∈ G, p ∈ G') : TT sg ts f g ys G' bd :=
  ⟨fun v hv => (h.tup v hv).mono e, h.rel⟩
theorem TT.add {sg : Int → Int} {ts : List Str} {f : Value → It} {g : Value → Nat} {ys : List Value} {G : List (Addr × Obj)} {bd : Int} {a : Addr} {k n : Nat} {od : Int} {t1 t2 t3 : Tok} (h : TT sg ts f g ys G bd) (ha : ∀ p ∈ G, p.1 ≠ a)
    (low : ∀ v ∈ ys, g v < k) (hod : sg od = bd) :
    TT sg ts (upd f a ⟨kyOf ts k, od, txt ts k⟩) (upd g a k) (.ref a :: ys) ((a, tupObj [.str (kyOf ts k) t1, .int od t2, .str (txt ts k) t3] n) :: G) (bd + 1) := by
  refine ⟨fun v hv => ?_, ?_⟩
  · rcases List.mem_cons.mp hv with rfl | hv
    · rw [upd_self]; exact ⟨a, t1, t2, t3, n, rfl, .head _⟩
    · rw [h.old ha v hv]; exact (h.tup v hv).mono fun p hp => .tail _ hp
  · refine Rel.more h.rel (fun v hv => by rw [upd_self]; exact low v hv) (h.old ha) (h.old ha) (fun v hv => by show sg (upd f a _ v).ord = _; rw [h.old ha v hv]) ?_ ?_ ?_
    · rw [upd_self, upd_self]
    · rw [upd_self, upd_self]
    · show sg (upd f a _ (.ref a)).ord = bd
      rw [upd_self]; exact hod
/-- what the comprehension has made so far -/
noncomputable def TC (sg : Int → Int) (ts : List Str) (ys : List Value) (G : List (Addr × Obj)) (k : Nat) : Prop := ∃ f g, ys.map g = List.range k ∧ TT sg ts f g ys G k
theorem TC.nil {sg : Int → Int} {ts : List Str} : TC sg ts [] [] 0 := ⟨fun _ => ⟨Str.empty, 0, Str.empty⟩, fun _ => 0, rfl, fun _ h => (nomatch h), ⟨fun _ h => (nomatch h), fun _ h => (nomatch h), fun _ h => (nomatch h), fun _ h => (nomatch h)⟩⟩
theorem TC.len {sg : Int → Int} {ts : List Str} {ys : List Value} {G : List (Addr × Obj)} {k : Nat} (h : TC sg ts ys G k) : ys.length = k := by
  obtain ⟨f, g, hm, _⟩ := h
  have := congrArg List.length hm
  simpa using this
theorem TC.snoc {sg : Int → Int} {ts : List Str} {ys : List Value} {G : List (Addr × Obj)} {k n : Nat} {a : Addr} {od : Int} {t1 t2 t3 : Tok} (h : TC sg ts ys G k) (ha : ∀ p ∈ G, p.1 ≠ a) (hod : sg od = k) :
    TC sg ts (ys ++ [.ref a]) ((a, tupObj [.str (kyOf ts k) t1, .int od t2, .str (txt ts k) t3] n) :: G) (k + 1) := by
  obtain ⟨f, g, hm, ht⟩ := h
  refine ⟨upd f a ⟨kyOf ts k, od, txt ts k⟩, upd g a k, ?_, ?_⟩
  · rw [List.map_append, List.range_succ, ← hm]
    congr 1
    · exact List.map_congr_left (ht.old ha)
    · simp [upd]
  · have := ht.add (k := k) (n := n) (t1 := t1) (t2 := t2) (t3 := t3) ha (fun v hv => by have := List.mem_map_of_mem (f := g) hv; rw [hm] at this; exact List.mem_range.mp this) hod
    have := this.perm (ys' := ys ++ [.ref a]) List.perm_append_comm
    rw [show (((k + 1 : Nat)) : Int) = (k : Int) + 1 by lia]
    exact this
end Mine
end

section
-- PureE
open PySem PySem.W PyProof.Rows
set_option Elab.async false
set_option linter.unusedVariables false
namespace Mine
theorem TT.weak {sg : Int → Int} {ts : List Str} {f : Value → It} {g : Value → Nat} {ys : List Value} {G : List (Addr × Obj)} {bd bd' : Int} (h : TT sg ts f g ys G bd) (hb : bd ≤ bd') : TT sg ts f g ys G bd' :=
  ⟨h.tup, h.rel.key, h.rel.el, h.rel.ord, fun v hv => Int.lt_of_lt_of_le (h.rel.bnd v hv) hb⟩
theorem Hp.congr {lt lt' : Value → Value → Bool} {k : Nat} {cur : List Value} (h : Hp lt k cur) (e : ∀ x ∈ cur, ∀ y ∈ cur, lt' x y = lt x y) : Hp lt' k cur := fun i h0 hi hk => by
  rw [e _ (getD_mem hi) _ (getD_mem (by lia))]
  exact h i h0 hi hk
section
variable {ts : List Str} {f : Value → It} {g : Value → Nat} {cur : List Value} {G : List (Addr × Obj)} {bd : Int} {j n : Nat} {a : Addr} {od : Int} {t1 t2 t3 : Tok}
theorem set0 {cur : List Value} {y : Value} (h : 0 < cur.length) : ∃ r rest, cur = r :: rest ∧ cur.set 0 y = y :: rest ∧ cur.getD 0 .none = r := by
  cases cur with
  | nil => simp at h
  | cons r rest => exact ⟨r, rest, rfl, rfl, rfl⟩
theorem out_small (hT : TT (fun x => x) ts f g cur G bd) (hK : Kept (ltS (kyOf ts)) j cur g) (hH : Hp (fun x y => ilt (f y) (f x)) 0 cur) (h0 : 0 < cur.length) (hl : slt (kyOf ts j) (f (cur.getD 0 .none)).key = false) : Kept (ltS (kyOf ts)) (j + 1) cur g := by
  refine hK.stay swoS (getD_mem h0) (worst_small hT.rel hH h0) ?_
  rw [hT.rel.key _ (getD_mem h0)] at hl
  exact hl
theorem in_small (hT : TT (fun x => x) ts f g cur G bd) (hK : Kept (ltS (kyOf ts)) j cur g) (hH : Hp (fun x y => ilt (f y) (f x)) 0 cur) (h0 : 0 < cur.length) (hl : slt (kyOf ts j) (f (cur.getD 0 .none)).key = true)
    (ha : ∀ p ∈ G, p.1 ≠ a) (hod : od = bd) :
    let f' := upd f a ⟨kyOf ts j, od, txt ts j⟩
    let g' := upd g a j
    let cur' := suF (fun x y => ilt (f' y) (f' x)) (cur.set 0 (.ref a)) 0
    TT (fun x => x) ts f' g' cur' ((a, tupObj [.str (kyOf ts j) t1, .int od t2, .str (txt ts j) t3] n) :: G) (bd + 1) ∧ Kept (ltS (kyOf ts)) (j + 1) cur' g' ∧ Hp (fun x y => ilt (f' y) (f' x)) 0 cur' ∧ cur'.length = cur.length := by
  intro f' g' cur'
  have hadd := hT.add (k := j) (n := n) (t1 := t1) (t2 := t2) (t3 := t3) (od := od) ha hK.low hod
  obtain ⟨r, rest, e1, e2, e3⟩ := set0 (cur := cur) (y := .ref a) h0
  have hp : cur'.Perm (.ref a :: rest) := by
    have := suF_perm (lt := fun x y => ilt (f' y) (f' x)) (cur := cur.set 0 (.ref a)) (p := 0) (by simpa using h0)
    exact this.trans (by rw [e2])
  have sub : ∀ v ∈ (Value.ref a :: rest), v ∈ (Value.ref a :: cur) := fun v hv => by
    rcases List.mem_cons.mp hv with rfl | hv
    · exact .head _
    · rw [e1]; exact .tail _ (.tail _ hv)
  have hT' : TT (fun x => x) ts f' g' (.ref a :: rest) ((a, tupObj [.str (kyOf ts j) t1, .int od t2, .str (txt ts j) t3] n) :: G) (bd + 1) := ⟨fun v hv => hadd.tup v (sub v hv), hadd.rel.sub sub⟩
  refine ⟨hT'.perm hp, ?_, ?_, ?_⟩
  · have w := worst_small hT.rel hH h0
    rw [e3] at w hl
    rw [hT.rel.key r (by rw [e1]; exact .head _)] at hl
    subst e1
    exact hK.swap swoS w hl (hT.old ha) upd_self hp
  · refine replace_hp vo_max (hH.congr fun x hx y hy => ?_) h0
    show ilt (f' y) (f' x) = ilt (f y) (f x)
    rw [show f' y = f y from hT.old ha y hy, show f' x = f x from hT.old ha x hx]
  · show (suF _ _ 0).length = _
    rw [suF_length, List.length_set]
theorem out_large (hT : TT (fun x => -x) ts f g cur G bd) (hK : Kept (ltL (kyOf ts)) j cur g) (hH : Hp (fun x y => ilt (f x) (f y)) 0 cur) (h0 : 0 < cur.length) (hl : slt (f (cur.getD 0 .none)).key (kyOf ts j) = false) : Kept (ltL (kyOf ts)) (j + 1) cur g := by
  refine hK.stay swoL (getD_mem h0) (worst_large hT.rel hH h0) ?_
  rw [hT.rel.key _ (getD_mem h0)] at hl
  exact hl
theorem in_large (hT : TT (fun x => -x) ts f g cur G bd) (hK : Kept (ltL (kyOf ts)) j cur g) (hH : Hp (fun x y => ilt (f x) (f y)) 0 cur) (h0 : 0 < cur.length) (hl : slt (f (cur.getD 0 .none)).key (kyOf ts j) = true)
    (ha : ∀ p ∈ G, p.1 ≠ a) (hod : -od = bd) :
    let f' := upd f a ⟨kyOf ts j, od, txt ts j⟩
    let g' := upd g a j
    let cur' := suF (fun x y => ilt (f' x) (f' y)) (cur.set 0 (.ref a)) 0
    TT (fun x => -x) ts f' g' cur' ((a, tupObj [.str (kyOf ts j) t1, .int od t2, .str (txt ts j) t3] n) :: G) (bd + 1) ∧ Kept (ltL (kyOf ts)) (j + 1) cur' g' ∧ Hp (fun x y => ilt (f' x) (f' y)) 0 cur' ∧ cur'.length = cur.length := by
  intro f' g' cur'
  have hadd := hT.add (k := j) (n := n) (t1 := t1) (t2 := t2) (t3 := t3) (od := od) ha hK.low hod
  obtain ⟨r, rest, e1, e2, e3⟩ := set0 (cur := cur) (y := .ref a) h0
  have hp : cur'.Perm (.ref a :: rest) := by
    have := suF_perm (lt := fun x y => ilt (f' x) (f' y)) (cur := cur.set 0 (.ref a)) (p := 0) (by simpa using h0)
    exact this.trans (by rw [e2])
  have sub : ∀ v ∈ (Value.ref a :: rest), v ∈ (Value.ref a :: cur) := fun v hv => by
    rcases List.mem_cons.mp hv with rfl | hv
    · exact .head _
    · rw [e1]; exact .tail _ (.tail _ hv)
  have hT' : TT (fun x => -x) ts f' g' (.ref a :: rest) ((a, tupObj [.str (kyOf ts j) t1, .int od t2, .str (txt ts j) t3] n) :: G) (bd + 1) := ⟨fun v hv => hadd.tup v (sub v hv), hadd.rel.sub sub⟩
  refine ⟨hT'.perm hp, ?_, ?_, ?_⟩
  · have w := worst_large hT.rel hH h0
    rw [e3] at w hl
    rw [hT.rel.key r (by rw [e1]; exact .head _)] at hl
    subst e1
    exact hK.swap swoL w hl (hT.old ha) upd_self hp
  · refine replace_hp vo_min (hH.congr fun x hx y hy => ?_) h0
    show ilt (f' x) (f' y) = ilt (f x) (f y)
    rw [show f' y = f y from hT.old ha y hy, show f' x = f x from hT.old ha x hx]
  · show (suF _ _ 0).length = _
    rw [suF_length, List.length_set]
end
end Mine
end

section
-- NsB, NlB
open PySem PySem.W PyProof.Rows PySem.Calls
set_option Elab.async false
set_option maxRecDepth 100000
set_option maxHeartbeats 1000000
set_option pp.deepTerms false
set_option pp.deepTerms.threshold 4
set_option pp.proofs false
namespace Mine
noncomputable def CutP (R : Shared → Prop) (P : Flow → Shared → Prop) (f : Flow) (s : Shared) : Prop := match f with | .next => Hold (R s) | f => P f s
theorem cut_next {M : Model} {A : Around} {E : Value → Shared → Prop} {s : Shared} {c : Sem Flow} {P : Flow → Shared → Prop} (R : Shared → Prop) (h1 : wpAny M A c (CutP R P) E s) (h2 : ∀ s', R s' → P .next s') : wpAny M A c P E s :=
  wpAny_mono h1 (fun f s' h => by
    cases f with
    | next => exact h2 s' h
    | _ => exact h) fun _ _ e => e
theorem leaveT {A₀ : Around} {base : Heap} {outer : List Env} {env : Env} {h₀ : Heap} {L : Addr} {m : Str → Option Value} {g : Heap} {R : Result → Shared → Prop} {v : Value} {s' : Shared} {g' : Heap} {L' : Addr} {m' : Str → Option Value} {news' : List (Addr × Obj)}
    (F : Fr g' L' s'.heap m') (N : News g' L' s'.heap news') (T : KtsTurn (frs (env :: outer)) g g')
    (k : ∀ h₀', KtsTurn (frs outer) h₀ h₀' → Fr h₀' L s'.heap m → News h₀' L s'.heap news' → Below A₀ base outer h₀' → R (.ok (.ret v)) s') : LeaveT A₀ base outer env h₀ L m g R v s' := ⟨g', L', m', news', T, F, N, k⟩
local macro_rules | `(tactic| walk_at "call ref") => `(tactic| refine Mine.hold ?_)
local macro_rules | `(tactic| walk_at "call builtin:iter") => `(tactic| refine Mine.hold ?_)
local macro_rules | `(tactic| walk_at "call builtin:min") => `(tactic| refine Mine.hold ?_)
local macro_rules | `(tactic| walk_at "call type:object") => `(tactic| refine Mine.hold ?_)
local macro_rules | `(tactic| walk_at "call builtin:sorted") => `(tactic| refine Mine.hold ?_)
local macro_rules | `(tactic| walk_at "exec Assign cons ListComp") => `(tactic| refine Mine.hold ?_)
local macro_rules | `(tactic| walk_at "exec Try") => `(tactic| refine Mine.hold ?_)
local macro_rules | `(tactic| walk_at "exec For") => `(tactic| refine Mine.hold ?_)
local macro_rules | `(tactic| walk_at "LeaveT") => `(tactic| refine Mine.hold ?_)
local macro_rules | `(tactic| walk_at "subscriptTail") => `(tactic| refine Mine.hold ?_)
local macro_rules | `(tactic| walk_at "call type:zip") => `(tactic| refine Mine.hold ?_)
local macro_rules | `(tactic| walk_at "pyIter ref") => `(tactic| refine Mine.hold ?_)
local macro_rules | `(tactic| walk_at "compareOp Lt") => `(tactic| refine Mine.hold ?_)
local macro_rules | `(tactic| walk_at "WStep") => `(tactic| (dsimp only [WStep]))
local macro_rules | `(tactic| walk_at "call builtin:list.sort") => `(tactic| refine Mine.hold ?_)
local macro_rules | `(tactic| walk_at "assign Tuple") => `(tactic| refine Mine.hold ?_)
local macro_rules | `(tactic| walk_at "eval ListComp") => `(tactic| refine Mine.hold ?_)
local macro_rules | `(tactic| walk_at "CutP") => `(tactic| (dsimp only [CutP]))
local macro_rules | `(tactic| walk_at "call builtin:len") => `(tactic| refine Mine.hold ?_)
local macro_rules | `(tactic| walk_at "compareOp Is str ref") => `(tactic| refine Mine.hold ?_)
theorem drop1 {h₀ h : Heap} {L : Addr} {p a : Addr × Obj} {news : List (Addr × Obj)} (N : News h₀ L h (p :: a :: news)) : News h₀ L h (p :: news) := fun q hq => N q (by
  rcases List.mem_cons.mp hq with rfl | hq
  · exact .head _
  · exact .tail _ (.tail _ hq))
theorem drop2 {h₀ h : Heap} {L : Addr} {p a b : Addr × Obj} {news : List (Addr × Obj)} (N : News h₀ L h (p :: a :: b :: news)) : News h₀ L h (p :: news) := drop1 (drop1 N)
noncomputable def ItArg (news : List (Addr × Obj)) (R : Addr) (v : Value) (pre : List (Addr × Obj)) : Prop :=
  (pre = [] ∧ v = .ref R) ∨ ∃ I o, pre = [(I, o)] ∧ v = .ref I ∧ LIt o R 0 ∧ ∀ p ∈ news, p.1 ≠ I

noncomputable abbrev Kv (v : Value) : Str := match v with | .str x _ => inn x | _ => Str.empty
theorem mlen1 {n : Int} {k N : Nat} (hk : k ≤ N) (h1 : max n 0 ≤ (k : Int)) (h2 : (k : Int) ≤ max (max n 0) 0) : k = min n.toNat N := by lia
theorem mlen2 {n : Int} {k N : Nat} (hk : k = N) (h : (k : Int) < max n 0) : k = min n.toNat N := by lia
theorem mlen0 {n : Int} {N : Nat} (h : N = 0) : 0 = min n.toNat N := by rw [h, Nat.min_zero]
theorem strs_at {rs : List Value} {ts : List Str} {k : Nat} (h : StrsAre rs ts) (hk : k < ts.length) : ∃ t, rs.getD k .none = .str (txt ts k) t := by
  induction h generalizing k with
  | nil => exact absurd hk (Nat.not_lt_zero _)
  | cons y t h ih =>
    cases k with
    | zero => exact ⟨t, rfl⟩
    | succ k =>
      obtain ⟨t', e⟩ := ih (Nat.lt_of_succ_lt_succ hk)
      exact ⟨t', by simpa using e⟩
theorem strs_map {rs : List Value} {ts : List Str} (h : StrsAre rs ts) : ∀ {Y : List Nat}, (∀ y ∈ Y, y < ts.length) → StrsAre (Y.map fun i => rs.getD i .none) (Y.map (txt ts))
  | [], _ => .nil
  | y :: Y, hy => by
    obtain ⟨t, e⟩ := strs_at h (hy y (.head _))
    rw [List.map_cons, List.map_cons, e]
    exact .cons _ _ (strs_map h fun z hz => hy z (.tail _ hz))
theorem best_of_is {rs : List Value} {ts : List Str} {i : Nat} (h : StrsAre rs ts) (hb : IsBest slt Kv rs rs.length i) : Best (ltS (kyOf ts)) ts.length [i] := by
  have hl : rs.length = ts.length := h.length
  have ek : ∀ k, k < ts.length → Kv (rs.getD k .none) = kyOf ts k := fun k hk => by
    obtain ⟨t, e⟩ := strs_at h hk
    rw [e]
  obtain ⟨h1, h2, h3⟩ := hb
  rw [hl] at h1 h2
  refine Best.one h1 (fun k hk => ?_) fun k hk => ?_
  · have := h2 k hk
    rw [ek k hk, ek i h1] at this
    exact this
  · have := h3 k hk
    rw [ek k (by lia), ek i h1] at this
    exact this
theorem iter_any {prog : Program} {w : World} {A : Around} {E : Value → Shared → Prop} {s : Shared} {h₀ : Heap} {L R : Addr} {m : Str → Option Value} {c : Addr × Obj} {news pre : List (Addr × Obj)} {Q : Value → Shared → Prop} {v : Value} {rs : List Value} {nR : Nat}
    (hv : ItArg news R v pre) (F : Fr h₀ L s.heap m) (N : News h₀ L s.heap (c :: (pre ++ news))) (hR : (R, listOf rs.toArray nR) ∈ news) (hc : ∀ p ∈ pre ++ news, p.1 ≠ c.1)
    (h : ∀ I o h', LIt o R 0 → Fr h₀ L h' m → News h₀ L h' ((I, o) :: c :: news) → (∀ p ∈ c :: news, p.1 ≠ I) → Q (.ref I) { s with heap := h' }) : wpAny (model prog w) A (call (.builtin "iter") [v]) Q E s := by
  rcases hv with ⟨rfl, rfl⟩ | ⟨I, o, rfl, rfl, ho, off⟩
  · exact call_iter_list F N (.tail _ hR) fun I o h' ho F' N' off => h I o h' ho F' N' off
  · refine call_iter_it (I := I) (o := o) (R := R) (i := 0) N (.tail _ (.head _)) ho ?_
    refine h I o s.heap ho F (news_sub N fun p hp => ?_) fun p hp => ?_
    · simp only [List.mem_cons, List.cons_append, List.nil_append] at hp ⊢
      rcases hp with q | q | q <;> simp [q]
    · rcases List.mem_cons.mp hp with rfl | hp
      · exact (hc (I, o) (.head _)).symm
      · exact off p hp
theorem args_sorted_k (a v : Value) : argsOk "sorted" ⟨[a], [(Str.ofString "key", v)]⟩ := by unfold argsOk; kernel_rfl
theorem args_lsort_k (a v : Value) : argsOk "list.sort" ⟨[a], [(Str.ofString "key", v)]⟩ := by unfold argsOk; kernel_rfl
theorem small_rng {n : Int} (hn : -50 < n ∧ n < 50) : Builtin.Range.small 0 n 1 = true := by
  have h : ∀ k : Fin 100, Builtin.Range.small 0 ((k.val : Int) - 50) 1 = true := by decide +kernel
  have e : n = (((n + 50).toNat : Nat) : Int) - 50 := by lia
  rw [e]
  exact h ⟨(n + 50).toNat, by lia⟩
theorem za_of {z TI TO i1 i2 l : Nat} (o1 : i1 < TI) (o2 : TI < TO) (o3 : TO < z) (h2 : i2 < i1) (hl : l < i1) (hn : l ≠ i2) : ZA z TI TO i1 i2 l := by
  constructor <;> (refine neN ?_; lia)
theorem offz_of {z TI TO i1 i2 a : Nat} (o1 : i1 < TI) (o2 : TI < TO) (o3 : TO < z) (h : a < i1) (h2 : a ≠ i2) : a ≠ z ∧ a ≠ TI ∧ a ≠ TO ∧ a ≠ i1 ∧ a ≠ i2 := by lia
theorem allLt_mem {d : Addr} {l : List (Addr × Obj)} (h : AllLt d l) : ∀ p ∈ l, p.1 < d := by
  induction l with
  | nil => intro p hp; cases hp
  | cons q r ih =>
    intro p hp
    rcases List.mem_cons.mp hp with rfl | hp
    · exact h.1
    · exact ih h.2 p hp
theorem news_rot {h₀ h : Heap} {L : Addr} {a b c d : Addr × Obj} {r : List (Addr × Obj)} (N : News h₀ L h (a :: b :: c :: d :: r)) : News h₀ L h (d :: a :: b :: c :: r) := news_sub N fun p hp => by
  simp only [List.mem_cons] at hp ⊢
  rcases hp with q | q | q | q | q <;> simp [q]
theorem news_back {h₀ h : Heap} {L : Addr} {a b c d : Addr × Obj} {r : List (Addr × Obj)} (N : News h₀ L h (a :: b :: c :: d :: r)) : News h₀ L h (d :: a :: (b :: r)) := news_sub N fun p hp => by
  simp only [List.mem_cons] at hp ⊢
  rcases hp with q | q | q | q <;> simp [q]
theorem keycall {w : World} {loose : List Str} {mean : ExcName → Option Value} {mg mb : Str → Option Value}
    {dp un : Nat} {gd : Option (List Code)} {cn : Str} {cs : Scope} {a : Addr} {ccd : Value} {cl : List (Str × Addr)} {outer : List Env} {A₀ : Around} {base h₀ : Heap} {L : Addr} {m : Str → Option Value} {rs : List Value} {ts : List Str}
    (B : Below A₀ base outer h₀) (X : (hd1.heap_39 w.params).In h₀) (T : Top hd1.view_39 loose mean mg mb h₀)
    (hk : cs.kind = .function) (hd : dp + 1 < recursionLimit) (hu : un + 8 < cLine) (hrs : StrsAre rs ts) (hts : ∀ x ∈ ts, x.length < 1000) :
    KeyCall PySem.Challenge.rw_nb0235_01.row.prog w (ktrTop dp un gd cn cs L a ccd cl outer) h₀ L m (.ref 103) Kv rs := by
  intro v hv s news Q E F N k
  obtain ⟨x, t, rfl, hx⟩ : ∃ x t, v = .str x t ∧ x ∈ ts := by
    clear B X T
    induction hrs with
    | nil => cases hv
    | cons y t h ih =>
      rcases List.mem_cons.mp hv with rfl | hv
      · exact ⟨_, _, rfl, .head _⟩
      · obtain ⟨x, t, e, hx⟩ := ih (fun x hx => hts x (.tail _ hx)) hv
        exact ⟨x, t, e, .tail _ hx⟩
  exact strip_c B F X N T hk hd hu (hts x hx) k
inductive HJ (sg : Int → Int) (lt : Nat → Nat → Bool) (hl : It → It → Bool) (hr : Addr) (ts : List Str) (D9 : Addr) (k : Nat) (tail : List (Addr × Obj)) (j : Nat) (m' : Str → Option Value) (tl' : List (Addr × Obj)) : Prop
  | mk (cur : List Value) (f : Value → It) (g : Value → Nat) (nD : Nat) (G : List (Addr × Obj)) (tt to : Tok) (ord : Int) (a1 : tl' = (D9, listOf cur.toArray nD) :: (G ++ tail)) (a2 : ∀ p ∈ G ++ tail, p.1 ≠ D9) (a3 : cur.length = k)
    (a4 : TT sg ts f g cur G (sg ord)) (a5 : Kept lt j cur g) (a6 : Hp (fun x y => hl (f x) (f y)) 0 cur) (m1 : m' (Str.ofString "top") = some (.str (f (cur.getD 0 .none)).key tt)) (m2 : m' (Str.ofString "order") = some (.int ord to)) (m3 : m' (Str.ofString "result") = some (.ref D9)) (m4 : m' (Str.ofString "_heapreplace") = some (.ref hr)) :
    HJ sg lt hl hr ts D9 k tail j m' tl'
inductive NsC (A : Around) (base : Heap) (env : Env) (outer : List Env) (s : Shared) (g' : Heap) (L' : Addr) (nw : List (Addr × Obj)) (n : Int) (t : Tok) (v : Value) (s' : Shared) : Prop
  | mk (g2 h2 : Heap) (tk2 : Nat) (m2 : Str → Option Value) (a1 : s' = { s with heap := h2, toks := tk2 }) (a2 : KtsTurn (frs (env :: outer)) g' g2) (a3 : Fr g2 L' h2 m2) (a4 : News g2 L' h2 nw) (a5 : Below A base (env :: outer) g2) (m1 : m2 (Str.ofString "n") = some (.int n t)) (m3 : m2 (Str.ofString "iterable") = some v) : NsC A base env outer s g' L' nw n t v s'
theorem nsmallest_c {w : World} {loose : List Str} {mean : ExcName → Option Value} {mg mb : Str → Option Value}
    {dp un : Nat} {gd : Option (List Code)} {cn : Str} {cs : Scope} {a : Addr} {ccd : Value} {cl : List (Str × Addr)} {outer : List Env} {A₀ : Around} {base h₀ : Heap} {L : Addr} {m : Str → Option Value} {s : Shared} {Q E : Value → Shared → Prop}
    {news pre : List (Addr × Obj)} {R : Addr} {nR : Nat} {rs : List Value} {ts : List Str} {n : Int} {t : Tok} {v : Value}
    (B : Below A₀ base outer h₀) (F : Fr h₀ L s.heap m) (X : (hd1.heap_39 w.params).In h₀) (N : News h₀ L s.heap (pre ++ news)) (T : Top hd1.view_39 loose mean mg mb h₀)
    (hk : cs.kind = .function) (hd : dp + 20 < recursionLimit) (hu : un + 200 < cLine) (hR : (R, listOf rs.toArray nR) ∈ news) (hv : ItArg news R v pre) (hrs : StrsAre rs ts) (hz : rs.length < 50) (hts : ∀ x ∈ ts, x.length < 1000) (hrn : rs = [] ∨ 2 ≤ rs.length) (hn : -50 < n ∧ n < 50)
    (XB : (hd1.heap_39 w.params).In base) (TB : Top hd1.view_39 loose mean mg mb base)
    (ret : ∀ h₀' D n' h' tk' out Y, KtsTurn (frs outer) h₀ h₀' → Below A₀ base outer h₀' → Fr h₀' L h' m → News h₀' L h' ((D, listOf out n') :: news) → (∀ p ∈ news, p.1 ≠ D) → StrsAre out.toList (Y.map (txt ts)) → Best (ltS (kyOf ts)) ts.length Y → Y.length = min n.toNat ts.length → Q (.ref D) { s with heap := h', toks := tk' }) :
    wpAny (model PySem.Challenge.rw_nb0235_01.row.prog w) (ktrTop dp un gd cn cs L a ccd cl outer) (call (.ref 90) [.int n t, v, .ref 103]) Q E s := by
  revert X; k_fill; intro X
  refine wpAny_call ?_
  refine' enterT ?k1 ?k2 ?k3 ?k4 ?k5 ?kA ?kF ?kK ?k6 ?k7 ?k8 ?k9 ?kB ?kD ?_ ?c2 ?c3 ?c4; (case kA => exact rfl); (case kF => exact rfl); (case kK => assumption); (case k1 => k_asm); (case k2 => k_asm); (case k3 => k_asm); (case k4 => k_asm); (case k5 => k_asm); (case k6 => k_is); (case k7 => k_is); (case k8 => ktr_room); (case k9 => first | exact BindsTo.of_eq rfl | exact binds_K (by k_in) rfl (by k_is) rfl rfl rfl | fail "k_enter: no rule for these arguments"); (case kB => exact rfl); (case kD => decide +kernel); (case c2 => exact rfl); (case c3 => exact rfl); (case c4 => exact rfl); k_whole; intro g' L' h1 tk1 cells1 FG F1 N1 Y1 B1 X1 T1 l1; k_cells Y1; (try simp only [List.cons_append, List.nil_append] at N1); (try dsimp only); (try k_unmd); (try k_fold)
  rename_i oc dc
  obtain ⟨m0, F1⟩ := fr_abs F1 [(Str.ofString "n", .int n t), (Str.ofString "iterable", v)] (List.forall_mem_cons.mpr ⟨rfl, List.forall_mem_cons.mpr ⟨rfl, fun _ h => (nomatch h)⟩⟩)
  dsimp only [putM] at F1
  replace dc : oc.data = .cell (some (.ref 103)) := dc
  k_steps
  · unfold Hold
    refine iter_any hv F1 N1 hR (fun p hp => Nat.ne_of_lt (Nat.lt_succ_of_lt (l1 p hp))) ?_
    intro I o h2 ho F2 N2 off2
    clear F1 N1
    k_steps
    unfold Hold
    refine call_object (by k_asm) (by k_asm) ?_
    intro S h3 F3 N3 off3
    k_steps
    rename_i F4 N4
    unfold Hold
    show wpAny _ _ (call (.builtin "min") [.ref I] [(Str.ofString "default", .ref S), (Str.ofString "key", .ref 103)]) _ _ _
    refine min_key (vs := rs) (l := R) (K := Kv) (d := .ref S) rfl F4 (news_swap N4) ho (fun p hp => ?_) (fun h _ N => PySem.IsL.isList (n := nR) (N _ (.tail _ (.tail _ hR))).1)
      (keycall B1 X1 T1 rfl (lim (b := 2) hd (by decide)) (lim (b := 12) hu (by decide)) hrs hts) ?_ ?_
    · rcases List.mem_cons.mp hp with rfl | hp
      · exact (off3 (I, o) (.head _)).symm
      · exact off2 p hp
    · intro e h' tk' F5 N5
      k_steps
      rename_i lD
      unfold Hold
      refine leaveT (by k_asm) (by k_asm) KtsTurn.refl ?_
      intro h₀' T9 F9 N9 B9
      have hl := hrs.length
      rw [e] at hl
      refine ret h₀' _ _ _ _ _ [] T9 B9 F9 (drop2 N9) (fun p hp => Nat.ne_of_lt (Nat.lt_trans (Nat.lt_succ_of_lt (l1 p (List.mem_append_right _ hp))) lD.2.1)) .nil Best.nil ?_
      simp at hl ⊢; lia
    · intro i h' tk' hi F5 N5
      have hl := hrs.length
      have hil : i < ts.length := by rw [← hl]; exact hi.1
      obtain ⟨tx, ex⟩ := strs_at hrs hil
      rw [ex]
      k_steps
      unfold Hold
      refine wpAny_is_other rfl (by intro h; cases h) ?_
      k_steps
      rename_i lD
      unfold Hold
      refine leaveT (by k_asm) (by k_asm) KtsTurn.refl ?_
      intro h₀' T9 F9 N9 B9
      refine ret h₀' _ _ _ _ _ [i] T9 B9 F9 (drop2 N9) (fun p hp => Nat.ne_of_lt (Nat.lt_trans (Nat.lt_succ_of_lt (l1 p (List.mem_append_right _ hp))) lD.2.1)) (.cons _ _ .nil) (best_of_is hrs hi) ?_
      have hn1 : n = 1 := by assumption
      subst hn1
      simp; lia
  · unfold Hold
    refine cut_next (NsC (ktrTop dp un gd cn cs L a ccd cl outer) base (envX cn cs L a ccd cl) outer s g' L' ((L' + 1, oc) :: (pre ++ news)) n t v) ?_ ?_
    · refine wpAny_Try_except ?_
      k_steps
      unfold Hold
      rcases id hv with ⟨e1, e2⟩ | ⟨I, o, e1, e2, ho, off⟩
      · rw [e2]
        refine at_len N1 (.tail _ (List.mem_append_right _ hR)) (by lia) ?_
        subst e1
        subst e2
        k_steps
        · rename_i F5 N5 hsz
          unfold Hold
          show wpAny _ _ (call (.builtin "sorted") [.ref R] [(Str.ofString "key", .ref 103)]) _ _ _
          rcases hrn with h0 | h2
          · subst h0
            refine sorted_nil (b := false) (f := .ref 103) F5 N5 (.tail _ hR) (args_sorted_k _ _) (fun x => args_lsort_k _ _) (fun x => ksk_t1 103 x) ?_
            intro D n' h6 F6 N6 off6
            k_steps
            unfold Hold
            refine kba_turn (value' := .Name Str.empty default) (fun _ => rfl) ?_
            refine kmk_slice (lo := none) (hi := some n) F6 N6 (PySem.IsL.isList (n := n') (N6 _ (.head _)).1) .none (.int _ _) ?_ (by with_unfolding_all rfl) (by intro _; with_unfolding_all rfl) (by simp)
            intro D7 h7 F7 N7 lt7
            dsimp only [CutP]
            refine leaveT F7 N7 KtsTurn.refl ?_
            intro h₀' T9 F9 N9 B9
            have hl := hrs.length
            have e9 : slicePick ([] : List Value).toArray none (some n) none = #[] := by
              rw [show n = ((n.toNat : Nat) : Int) by simp at hsz; lia, slicePick_upto']; simp
            rw [e9] at N9
            refine ret h₀' _ _ _ _ _ [] T9 B9 F9 (drop2 N9) (fun p hp => Nat.ne_of_lt (lt7 p (.tail _ (.tail _ hp)))) .nil Best.nil ?_
            simp at hl ⊢; lia
          · refine sorted_key (b := false) (f := .ref 103) (K := Kv) F5 N5 (.tail _ hR) h2 (by lia) (args_sorted_k _ _) (fun x => args_lsort_k _ _) (fun x => ksk_t1 103 x)
              (keycall B1 X1 T1 rfl (lim (b := 2) hd (by decide)) (lim (b := 13) hu (by decide)) hrs hts) ?_
            intro p D n' h6 tk6 hst F6 N6 off6
            k_steps
            unfold Hold
            have hps : p.size = rs.length := hst.sz
            refine kba_turn (value' := .Name Str.empty default) (fun _ => rfl) ?_
            refine kmk_slice (lo := none) (hi := some n) F6 N6 (PySem.IsL.isList (n := n') (N6 _ (.head _)).1) .none (.int _ _) ?_ (by with_unfolding_all rfl) (by intro _; with_unfolding_all rfl) (by simp [katRev, hps, sizeLine_eq]; lia)
            intro D7 h7 F7 N7 lt7
            dsimp only [CutP]
            refine leaveT F7 N7 KtsTurn.refl ?_
            intro h₀' T9 F9 N9 B9
            have hl := hrs.length
            have hb : Best (ltS (kyOf ts)) ts.length p.toList := by
              have h1 := St.best swo_s hst
              rw [hl] at h1
              refine h1.ext fun a b ha hb => ?_
              obtain ⟨t1, g1⟩ := strs_at hrs ha
              obtain ⟨t2, g2⟩ := strs_at hrs hb
              simp only [katRev, Bool.false_eq_true, if_false]
              rw [g1, g2]
            have e9 : slicePick (katRev false (p.toList.map fun i => (katRev false rs).getD i .none)).toArray none (some n) none = (p.toList.map fun i => rs.getD i .none).toArray := by
              rw [show n = ((n.toNat : Nat) : Int) by lia, slicePick_upto']
              simp only [katRev, Bool.false_eq_true, if_false]
              rw [List.take_of_length_le (by simp [hps]; lia)]
            rw [e9] at N9
            refine ret h₀' _ _ _ _ _ p.toList T9 B9 F9 (drop2 N9) (fun p hp => Nat.ne_of_lt (lt7 p (.tail _ (.tail _ hp)))) (strs_map hrs hb.low) hb ?_
            simp [hps]; lia
        · exact ⟨g', _, _, _, rfl, KtsTurn.refl, by k_asm, by k_asm, B1, rfl, rfl⟩
      · rw [e2]
        refine len_raises ⟨o, (N1 (I, o) (by rw [e1]; exact .tail _ (.head _))).1, ho.1⟩ rfl ?_
        intro h2 tk2 e hx
        refine caughtT B1 hx F1 N1 XB TB rfl (by k_is) (by boot_by_name) (by decide) rfl (by decide) (by k_is) (by boot_by_name) (by decide) rfl (by decide) (by kts_exm) ?_
        intro h3 g3 T3 F3 N3 B3 X3 P3
        k_steps
        exact ⟨g3, h3, _, _, rfl, T3, F3, N3, B3, rfl, e2 ▸ rfl⟩
    · rintro _ ⟨g2, h2, tk2, m2, rfl, T2, F2, N2, B2, mn, mi⟩
      replace F2 := puts F2 [(Str.ofString "n", .int n t), (Str.ofString "iterable", v)] (pm mn (pm mi pn))
      dsimp only [putM] at F2
      have X2 := XB.keeps B2.stays
      have P2 := TB.keeps B2.stays
      clear F1 N1 X1 T1 B1
      dsimp only
      k_steps
      unfold Hold
      refine iter_any hv F2 N2 hR (fun p hp => Nat.ne_of_lt (Nat.lt_succ_of_lt (l1 p hp))) ?_
      intro I o h3 ho F3 N3 off3
      clear F2 N2
      k_steps
      rename_i F4 N4
      unfold Hold
      refine lc_assignF F4 (cl := [(Str.ofString "key", L' + 1)]) rfl (by rfl) (by rfl) (by decide) rfl (by decide) rfl rfl ?_
      k_steps
      rename_i hRg F5 N5 up5
      unfold Hold
      refine call_zip_ri hRg (small_rng hn) F5 N5 ho ?_
      intro h6 z TI TO i1 F6 N6 o1 o2 o3 old6
      refine wpAny_pyIter_zip (N6 _ (.head _)).1 ?_
      have hI5 : I < i1 := old6 _ _ (N5 _ (.head _)).1
      have hnews5 : ∀ p ∈ (L' + 1, oc) :: news, p.1 < i1 := fun p hp => old6 _ _ (N5 _ (.tail _ hp)).1
      have hRi : R < i1 := hnews5 _ (.tail _ hR)
      have hRI : R ≠ I := off3 _ (.tail _ hR)
      refine zip_lcat (base := (L' + 1, oc) :: news) (l := R) (rs := rs) (nl := nR) rfl rfl rfl (by decide) rfl F6 N6 ho (za_of o1 o2 o3 hI5 hRi hRI) (fun p hp => offz_of o1 o2 o3 (hnews5 p hp) (off3 p hp)) (.tail _ hR) (by lia)
        (TC (fun x => x) ts) TC.nil (fun ys G k h => h.len) ?_ ?_
      · intro k ys G v9 C oC D m9 h9 tk9 t9 nw hk9 hkN hv9 hT hoC mi1 mi2 hsub F9 N9
        have hfo_e : ∃ fo fd, g2.get? 103 = some fo ∧ fo.data = .func fd := ⟨_, _, X2 103 _ (by k_is), rfl⟩
        have hfo := hfo_e.choose_spec.choose_spec.1
        have hfd := hfo_e.choose_spec.choose_spec.2
        obtain ⟨tv, ev⟩ := strs_at hrs (k := k) (by rw [← hrs.length]; exact hk9)
        have ev9 : v9 = .str (txt ts k) tv := by
          rw [← ev]; simp [List.getD, hv9]
        subst ev9
        refine elt_tup rfl rfl rfl rfl rfl F9 N9 (.tail _ (.tail _ (hsub _ (List.mem_append_right _ (.head _))))) dc hfo hfd (.head _) hoC mi2 mi1
          (keycall B2 X2 P2 rfl (lim (b := 2) hd (by decide)) (lim (b := 11) hu (by decide)) hrs hts) (List.mem_of_getElem? hv9) ?_
        intro a1 h10 tk10 t10 F10 N10 off10
        exact ⟨h10, tk10, a1, _, rfl, F10, N10, off10, hT.snoc (fun p hp => off10 p (.tail _ (.tail _ (hsub p (List.mem_append_left _ hp))))) (by show (0 + (k : Int) * 1) = k; lia)⟩
      · intro k ys G o2' hT hkl hend hkm hoff D9 h9 tk9 F9 N9 off9
        have hyl := hT.len
        have hrl := hrs.length
        have hN0 : Builtin.Range.rangeSize 0 n 1 = max n 0 := by
          unfold Builtin.Range.rangeSize
          rw [if_pos (by decide)]
          split <;> lia
        rw [hN0] at hend hkm
        replace N9 : News g2 L' h9 ((D9, listOf ys.toArray ys.length) :: (I, o2') :: (G ++ (L' + 1, oc) :: news)) := N9
        k_steps
        · rename_i hem
          have hye : ys = [] := List.isEmpty_iff.mp hem
          unfold Hold
          dsimp only
          refine leaveT (by exact F9) (by exact N9) T2 ?_
          intro h₀' T9 F10 N10 B9
          subst hye
          refine ret h₀' D9 _ h9 _ #[] [] T9 B9 F10 (news_sub N10 fun p hp => (List.mem_cons.mp hp).elim (fun e => e ▸ .head _) fun h => .tail _ (.tail _ (List.mem_append_right _ (.tail _ h)))) (fun p hp => off9 p (.tail _ (List.mem_append_right _ (.tail _ hp)))) .nil Best.nil ?_
          simp at hyl ⊢
          lia
        · rename_i hem
          have hyn : 0 < ys.length := by
            cases ys with
            | nil => simp at hem
            | cons _ _ => simp
          obtain ⟨f, g, hgm, hTT⟩ := hT
          have hS : ∀ v ∈ ys, TupIn ((I, o2') :: (G ++ (L' + 1, oc) :: news)) v (f v) := fun v hv => (hTT.tup v hv).mono fun p hp => .tail _ (List.mem_append_left _ hp)
          have hlt0 : LtOk (fun v u => ilt (f v) (f u)) (· ∈ ys) ((I, o2') :: (G ++ (L' + 1, oc) :: news)) := ltok_tup hS fun v u hv hu e => hTT.rel.same hv hu e
          unfold Hold
          refine heapifyM_c (its := ys) (lt := fun v u => ilt (f v) (f u)) (S := (· ∈ ys)) (by k_asm) (by exact F9) (by k_asm) (by exact N9) (by k_asm) rfl (lim (b := 4) hd (by decide)) (lim (b := 27) hu (by decide)) (by lia) hlt0 (fun _ h => h) off9 ?_
          intro h10 tk10 F10 N10
          obtain ⟨cur0, hcp, hcH, N10⟩ : ∃ cur0 : List Value, cur0.Perm ys ∧ Hp (fun x y => ilt (f y) (f x)) 0 cur0 ∧ News g2 L' h10 ((D9, listOf cur0.toArray ys.length) :: (I, o2') :: (G ++ (L' + 1, oc) :: news)) := ⟨_, hfF_perm _ _ (by lia), heapify_hp vo_max ys, N10⟩
          have hcl := hcp.length_eq
          have hT0 := hTT.perm hcp
          have hroot := getD_mem (l := cur0) (k := 0) (by lia)
          obtain ⟨a0, t1, t2, t3, nn, e0, m0⟩ := hT0.tup _ hroot
          k_steps
          unfold Hold
          refine at_subv (its := cur0) (n := ys.length) (by exact N10) (.head _) (by decide) (by lia) (by lia) e0 ?_ (by with_unfolding_all rfl)
          k_steps
          unfold Hold
          refine kba_turn (value' := .Name Str.empty default) (fun _ => rfl) ?_
          refine item_tupleL (l := [.str (f (cur0.getD 0 .none)).key t1, .int (f (cur0.getD 0 .none)).ord t2, .str (f (cur0.getD 0 .none)).el t3]) (j := 0) ⟨_, (N10 _ (.tail _ (.tail _ (List.mem_append_left _ m0)))).1, rfl, nn, rfl⟩ (by decide) (by decide) rfl rfl ?_ (by with_unfolding_all rfl) (by intro _; with_unfolding_all rfl)
          k_steps
          rename_i F11 N11
          unfold Hold
          k_dflt (refine for_c ?_)
          k_steps
          refine pyIter_it (by exact (N11 _ (.tail _ (.head _))).1) (hend.elim (fun h => h.1.1) (fun h => h.1.1)) ?_
          refine for_it (s₀ := s) (R := R) (rs := rs) (nR := nR) (j₀ := k) rfl rfl F11 (news_swap N11) (fun p hp => ?_) (hend.elim (fun h => .inl ⟨h.1, hkl⟩) (fun h => .inr ⟨h.1, h.2.1⟩)) (fun _ => rfl)
            (HJ (fun x => x) (ltS (kyOf ts)) (fun x y => ilt y x) 49 ts D9 k ((L' + 1, oc) :: news))
            ⟨cur0, f, g, _, G, t1, t, n, rfl, fun p hp => off9 p (.tail _ hp), by lia, hT0.weak (by lia), (Kept.start hgm).perm hcp, hcH, rfl, rfl, rfl, rfl⟩ ?_ ?_ ?_
          · rcases List.mem_cons.mp hp with rfl | hp
            · exact (off9 _ (.head _)).symm
            · exact hoff p hp
          · rintro j m' tl' ⟨cur, f, g, nD, G, tt, to, ord, rfl, -⟩
            exact .tail _ (List.mem_append_right _ (.tail _ hR))
          · rintro j m' tl' h12 tk12 o12 v12 hj hv12 hit F12 N12 off12 ⟨cur, f, g, nD, G, tt, to, ord, rfl, offD, hck, hTT, hK, hH, m1, m2, m3, m4⟩
            obtain ⟨tv, ev⟩ := strs_at hrs (k := j) (by rw [← hrl]; exact hj)
            have ev9 : v12 = .str (txt ts j) tv := by
              rw [← ev]; simp [List.getD, hv12]
            subst ev9
            replace F12 := puts F12 [(Str.ofString "top", .str (f (cur.getD 0 .none)).key tt), (Str.ofString "order", .int ord to), (Str.ofString "result", .ref D9), (Str.ofString "_heapreplace", .ref 49)] (pm m1 (pm m2 (pm m3 (pm m4 pn))))
            dsimp only [putM] at F12
            clear F11 N11
            replace N12 : News g2 L' h12 ((L' + 1, oc) :: (I, o12) :: (D9, listOf cur.toArray nD) :: (G ++ (L' + 1, oc) :: news)) := news_sub N12 fun p hp => (List.mem_cons.mp hp).elim (fun e => e ▸ .tail _ (.tail _ (List.mem_append_right _ (.head _)))) id
            k_steps
            unfold Hold
            have hjt : txt ts j ∈ ts := by
              have : j < ts.length := by lia
              simp [txt, List.getD, this]
            refine strip_c (by k_asm) (by k_asm) (by k_asm) (by k_asm) (by k_asm) rfl (lim (b := 2) hd (by decide)) (lim (b := 11) hu (by decide)) (hts _ hjt) ?_
            intro t13 h13 tk13 F13 N13
            k_steps
            · rename_i hltq D14 h14 F14 N14 l14
              have hsl : slt (kyOf ts j) (f (cur.getD 0 .none)).key = true := decide_eq_true hltq
              have fresh14 : ∀ p ∈ G ++ (L' + 1, oc) :: news, p.1 < D14 := allLt_mem l14.2.2.2
              have hadd := hTT.add (a := D14) (k := j) (n := 0) (t1 := t13) (t2 := to) (t3 := tv) (od := ord) (fun p hp => Nat.ne_of_lt (fresh14 p (List.mem_append_left _ hp))) hK.low rfl
              have hin := in_small (a := D14) (n := 0) (t1 := t13) (t2 := to) (t3 := tv) (od := ord) hTT hK hH (by lia) hsl (fun p hp => Nat.ne_of_lt (fresh14 p (List.mem_append_left _ hp))) rfl
              have hltB : LtOk (fun v u => ilt (upd f D14 ⟨kyOf ts j, ord, txt ts j⟩ v) (upd f D14 ⟨kyOf ts j, ord, txt ts j⟩ u)) (· ∈ Value.ref D14 :: cur) ((D14, tupObj [.str (kyOf ts j) t13, .int ord to, .str (txt ts j) tv] 0) :: (L' + 1, oc) :: (I, o12) :: (G ++ (L' + 1, oc) :: news)) :=
                ltok_tup (fun v hv => (hadd.tup v hv).mono fun p hp => (List.mem_cons.mp hp).elim (fun e => e ▸ .head _) fun h => .tail _ (.tail _ (.tail _ (List.mem_append_left _ h)))) fun v u hv hu e => hadd.rel.same hv hu e
              have N14' : News g2 L' h14 ((D9, listOf cur.toArray nD) :: (D14, tupObj [.str (kyOf ts j) t13, .int ord to, .str (txt ts j) tv] 0) :: (L' + 1, oc) :: (I, o12) :: (G ++ (L' + 1, oc) :: news)) := news_rot N14
              unfold Hold
              refine heapreplaceM_c (its := cur) (y := .ref D14) (n := nD) (lt := fun v u => ilt (upd f D14 ⟨kyOf ts j, ord, txt ts j⟩ v) (upd f D14 ⟨kyOf ts j, ord, txt ts j⟩ u)) (S := (· ∈ Value.ref D14 :: cur)) (by k_asm) (by exact F14) (by k_asm)
                (by exact N14') (by k_asm) rfl (lim (b := 4) hd (by decide)) (lim (b := 27) hu (by decide)) (by lia) (by lia) hltB (fun x hx => .tail _ hx) (.head _) (Mine.oc (Nat.ne_of_gt l14.2.2.1) (Mine.oc (offD _ (List.mem_append_right _ (.head _))) (Mine.oc ((off12 _ (.head _)).symm) offD))) ?_
              · intro h15 tk15 F15 N15
                obtain ⟨f2, g9, cur2, hT2, hK2, hH2, hl2, N16⟩ : ∃ (f2 : Value → It) (g9 : Value → Nat) (cur2 : List Value), TT (fun x => x) ts f2 g9 cur2 ((D14, tupObj [.str (kyOf ts j) t13, .int ord to, .str (txt ts j) tv] 0) :: G) (ord + 1) ∧ Kept (ltS (kyOf ts)) (j + 1) cur2 g9 ∧
                    Hp (fun x y => ilt (f2 y) (f2 x)) 0 cur2 ∧ cur2.length = cur.length ∧ News g2 L' h15 ((D9, listOf cur2.toArray nD) :: (D14, tupObj [.str (kyOf ts j) t13, .int ord to, .str (txt ts j) tv] 0) :: (L' + 1, oc) :: (I, o12) :: (G ++ (L' + 1, oc) :: news)) := ⟨_, _, _, hin.1, hin.2.1, hin.2.2.1, hin.2.2.2, N15⟩
                clear N15 hin hadd hltB
                have hroot2 := getD_mem (l := cur2) (k := 0) (by lia)
                obtain ⟨a2, u1, u2, u3, nn2, e2, m02⟩ := hT2.tup _ hroot2
                have m02' : (a2, tupObj [.str (f2 (cur2.getD 0 .none)).key u1, .int (f2 (cur2.getD 0 .none)).ord u2, .str (f2 (cur2.getD 0 .none)).el u3] nn2) ∈ (D9, listOf cur2.toArray nD) :: (D14, tupObj [.str (kyOf ts j) t13, .int ord to, .str (txt ts j) tv] 0) :: (L' + 1, oc) :: (I, o12) :: (G ++ (L' + 1, oc) :: news) :=
                  (List.mem_cons.mp m02).elim (fun e => e ▸ .tail _ (.head _)) fun h => .tail _ (.tail _ (.tail _ (.tail _ (List.mem_append_left _ h))))
                k_steps
                unfold Hold
                refine at_subv (its := cur2) (n := nD) (by exact N16) (.head _) (by decide) (by lia) (by lia) e2 ?_ (by with_unfolding_all rfl)
                k_steps
                unfold Hold
                refine unpackN_ (items := #[.str (f2 (cur2.getD 0 .none)).key u1, .int (f2 (cur2.getD 0 .none)).ord u2, .str (f2 (cur2.getD 0 .none)).el u3]) (by exact F15) (by exact N16) ⟨_, (N16 _ m02').1, rfl, nn2, rfl⟩ rfl rfl rfl ?_
                intro h17 F17 N17
                k_steps
                rename_i F18 N18
                unfold Hold
                exact ⟨_, _, _, o12, _, rfl, F18, news_back N18, fun p hp => (List.mem_cons.mp hp).elim (fun e => by rw [e]; exact off12 (D9, listOf cur.toArray nD) (.head _)) fun h => (List.mem_cons.mp h).elim (fun e => e ▸ Nat.ne_of_gt l14.2.1) fun h => off12 p (.tail _ h), hit, cur2, f2, g9, nD, (D14, tupObj [.str (kyOf ts j) t13, .int ord to, .str (txt ts j) tv] 0) :: G, u1, _, ord + 1, rfl,
                  fun p hp => (List.mem_cons.mp hp).elim (fun e => e ▸ Nat.ne_of_gt l14.2.2.1) fun h => offD p h, by lia, hT2, hK2, hH2, rfl, rfl, rfl, rfl⟩
            · rename_i F14 N14 hltq
              have hsl : slt (kyOf ts j) (f (cur.getD 0 .none)).key = false := decide_eq_false hltq
              unfold Hold
              exact ⟨_, _, _, o12, _, rfl, F14, fun p hp => N14 p (.tail _ hp), off12, hit, cur, f, g, nD, G, tt, to, ord, rfl, offD, hck, hTT, out_small hTT hK hH (by lia) hsl, hH, rfl, rfl, rfl, rfl⟩
          · rintro m' tl' h20 tk20 F20 N20 ⟨cur, f, g, nD, G, tt, to, ord, rfl, offD, hck, hTT, hK, hH, m1, m2, m3, m4⟩
            replace F20 := puts F20 [(Str.ofString "result", .ref D9)] (pm m3 pn)
            dsimp only [putM] at F20
            clear F11 N11
            have h2 : 2 ≤ cur.length := by
              rcases hend with ⟨_, q⟩ | ⟨_, q, _⟩
              · lia
              · rcases hrn with e | e
                · rw [e] at q; simp at q; lia
                · lia
            k_steps
            unfold Hold
            refine sort_tup (f := f) (vs := cur) (n := nD) (by exact F20) (by exact N20) offD h2 (by lia) (fun v hv => (hTT.tup v hv).mono fun p hp => List.mem_append_left _ hp) (fun v hv u hu e => hTT.rel.same hv hu e) ?_
            intro p n21 h21 hst F21 N21
            obtain ⟨out, hbest, hperm, N22⟩ : ∃ out : List Value, Best (ltS (kyOf ts)) rs.length (out.map g) ∧ out.Perm cur ∧ News g2 L' h21 ((D9, listOf out.toArray n21) :: (G ++ (L' + 1, oc) :: news)) := ⟨_, (fin_small hK hTT.rel hst).1, (fin_small hK hTT.rel hst).2, N21⟩
            clear N21 N20 F20
            k_steps
            unfold Hold
            have hol := hperm.length_eq
            have hTo := hTT.perm hperm
            refine lc_valueF (by exact F21) (cl := []) (by rfl) (by decide) rfl (by decide) ?_
            k_steps
            unfold Hold
            refine wpAny_pyIter_list (PySem.IsL.isList (n := n21) (by exact (N22 _ (.head _)).1)) ?_
            refine list_lcat (its := out) (nl := n21) (l := D9) (nb₀ := (D9, listOf out.toArray n21) :: (G ++ (L' + 1, oc) :: news)) rfl (by exact F21.push _) (by exact News.push F21 N22 _) ⟨rfl, rfl⟩ (fun p hp => Nat.ne_of_lt (Heap.lt_size (N22 p hp).1)) (by lia)
              (fun ys nb k => nb = (D9, listOf out.toArray n21) :: (G ++ (L' + 1, oc) :: news) ∧ ys.length = k ∧ StrsAre ys ((out.take k).map fun v => (f v).el)) ⟨rfl, rfl, .nil⟩ (fun ys nb k h => ⟨h.1 ▸ .head _, Nat.le_of_eq h.2.1⟩)
              (.inr ⟨_, _, _, rfl, fun v hv => by obtain ⟨a, _, _, _, _, e, _⟩ := hTo.tup v hv; exact ⟨a, e⟩⟩) ?_ ?_
            · rintro i v hi hv ys nb C oC D m9 h22 tk22 io ⟨rfl, hys, hst2⟩ hoC F22 N23 hCD hIC hID off22
              have hvm := List.mem_of_getElem? hv
              obtain ⟨a3, w1, w2, w3, n3, rfl, m33⟩ := hTo.tup v hvm
              refine asg3 rfl rfl rfl rfl rfl F22 (by exact N23) hoC (off_c hCD hIC off22) ⟨_, (N23 _ (.tail _ (.tail _ (.tail _ (.tail _ (List.mem_append_left _ m33)))))).1, rfl, n3, rfl⟩ ?_
              · intro h24 oC4 tk24 F24 N24 hoC4
                refine wpAny_tests_nil ?_
                refine cif_pos rfl ?_
                refine cname_l rfl rfl N24 (.head _) hoC4 rfl ?_
                refine ⟨h24, tk24, oC4, _, _, rfl, hoC4, F24, N24, off22, rfl, by simp [hys], ?_⟩
                rw [List.take_add_one, hv, List.map_append]
                exact kct_snoc hst2
            · rintro ys nb ⟨rfl, hys, hst2⟩ D25 h25 tk25 F25 N25 off25
              rw [List.take_length] at hst2
              dsimp only
              refine leaveT (by exact F25) (by exact N25) T2 ?_
              intro h₀' T9 F26 N26 B9
              have ee : (out.map fun v => (f v).el) = (out.map g).map (txt ts) := by
                rw [List.map_map]
                exact List.map_congr_left fun v hv => hTo.rel.el v hv
              rw [ee] at hst2
              rw [hrl] at hbest
              refine ret h₀' D25 _ h25 _ ys.toArray (out.map g) T9 B9 F26 (news_sub N26 fun p hp => (List.mem_cons.mp hp).elim (fun e => e ▸ .head _) fun h => .tail _ (.tail _ (List.mem_append_right _ (.tail _ h)))) (fun p hp => off25 p (.tail _ (List.mem_append_right _ (.tail _ hp)))) hst2 hbest ?_
              rw [List.length_map, hol, hck]
              rcases hend with ⟨_, q⟩ | ⟨_, q, q2⟩
              · exact mlen1 (by rw [← hrl]; exact hkl) q hkm
              · exact mlen2 (by rw [← hrl]; exact q) q2
theorem best_of_isL {rs : List Value} {ts : List Str} {i : Nat} (h : StrsAre rs ts) (hb : IsBest sgt Kv rs rs.length i) : Best (ltL (kyOf ts)) ts.length [i] := by
  have hl : rs.length = ts.length := h.length
  have ek : ∀ k, k < ts.length → Kv (rs.getD k .none) = kyOf ts k := fun k hk => by
    obtain ⟨t, e⟩ := strs_at h hk
    rw [e]
  obtain ⟨h1, h2, h3⟩ := hb
  rw [hl] at h1 h2
  refine Best.one h1 (fun k hk => ?_) fun k hk => ?_
  · have := h2 k hk
    rw [ek k hk, ek i h1] at this
    exact this
  · have := h3 k hk
    rw [ek k (by lia), ek i h1] at this
    exact this
theorem args_sorted_kr (a v u : Value) : argsOk "sorted" ⟨[a], [(Str.ofString "key", v), (Str.ofString "reverse", u)]⟩ := by unfold argsOk; kernel_rfl
theorem args_lsort_kr (a v u : Value) : argsOk "list.sort" ⟨[a], [(Str.ofString "key", v), (Str.ofString "reverse", u)]⟩ := by unfold argsOk; kernel_rfl
theorem small_rngL {n : Int} (hn : -50 < n ∧ n < 50) : Builtin.Range.small 0 (-n) (-1) = true := by
  have h : ∀ k : Fin 100, Builtin.Range.small 0 (-((k.val : Int) - 50)) (-1) = true := by decide +kernel
  have e : n = (((n + 50).toNat : Nat) : Int) - 50 := by lia
  rw [e]
  exact h ⟨(n + 50).toNat, by lia⟩
section
variable {M : Model} {A : Around} {E : Value → Shared → Prop} {s : Shared} {env : Env}
theorem callWith_kw0 {pos : Pos} {id : String} {first : List Value} {kws : List Keyword} {Q : Value → Shared → Prop}
    (h : wpAny M A (evalAll ((backToKw pos (keywordEach kws env)).map (·.2))) (fun kvs s₂ => wpAny M A (call (.builtin id) (first ++ []) (((backToKw pos (keywordEach kws env)).filterMap (·.1)).zip kvs)) Q E s₂) E s)
    (hall : (backToKw pos (keywordEach kws env)).all (·.1.isSome) = true := by rfl)
    (hkw : (backToKw pos (keywordEach kws env)).any (·.1.isNone) = false := by rfl) :
    wpAny M A (callWith pos (.builtin id) first (backTo pos (starEach [] env)) (backToKw pos (keywordEach kws env))) Q E s :=
  callWith_builtin_kwB rfl hkw (evalArgs_kw2_nil hall h)
end
theorem katRev_at {rs : List Value} {i : Nat} (h : i < rs.length) : (katRev true rs).getD i .none = rs.getD (rs.length - 1 - i) .none := by
  unfold katRev
  rw [if_pos rfl]
  have h2 : rs.length - 1 - i < rs.length := by lia
  simp [List.getD, h, h2]
theorem st_ext {lt lt' : Nat → Nat → Bool} {N : Nat} {p : Array Nat} (h : St lt N p N) (e : ∀ a b, a < N → b < N → lt a b = lt' a b) : St lt' N p N :=
  ⟨h.sz, h.perm, h.low, h.tail, fun a b hab hb => by
    have := h.ord a b hab hb
    unfold bef at this ⊢
    rw [← e _ _ (h.low a (by lia)) (h.low b hb), ← e _ _ (h.low b hb) (h.low a (by lia))]
    exact this⟩
local macro_rules | `(tactic| walk_at "call builtin:max") => `(tactic| refine Mine.hold ?_)
theorem nlargest_c {w : World} {loose : List Str} {mean : ExcName → Option Value} {mg mb : Str → Option Value}
    {dp un : Nat} {gd : Option (List Code)} {cn : Str} {cs : Scope} {a : Addr} {ccd : Value} {cl : List (Str × Addr)} {outer : List Env} {A₀ : Around} {base h₀ : Heap} {L : Addr} {m : Str → Option Value} {s : Shared} {Q E : Value → Shared → Prop}
    {news pre : List (Addr × Obj)} {R : Addr} {nR : Nat} {rs : List Value} {ts : List Str} {n : Int} {t : Tok} {v : Value}
    (B : Below A₀ base outer h₀) (F : Fr h₀ L s.heap m) (X : (hd1.heap_39 w.params).In h₀) (N : News h₀ L s.heap (pre ++ news)) (T : Top hd1.view_39 loose mean mg mb h₀)
    (hk : cs.kind = .function) (hd : dp + 20 < recursionLimit) (hu : un + 200 < cLine) (hR : (R, listOf rs.toArray nR) ∈ news) (hv : ItArg news R v pre) (hrs : StrsAre rs ts) (hz : rs.length < 50) (hts : ∀ x ∈ ts, x.length < 1000) (hrn : rs = [] ∨ 2 ≤ rs.length) (hn : -50 < n ∧ n < 50)
    (XB : (hd1.heap_39 w.params).In base) (TB : Top hd1.view_39 loose mean mg mb base)
    (ret : ∀ h₀' D n' h' tk' out Y, KtsTurn (frs outer) h₀ h₀' → Below A₀ base outer h₀' → Fr h₀' L h' m → News h₀' L h' ((D, listOf out n') :: news) → (∀ p ∈ news, p.1 ≠ D) → StrsAre out.toList (Y.map (txt ts)) → Best (ltL (kyOf ts)) ts.length Y → Y.length = min n.toNat ts.length → Q (.ref D) { s with heap := h', toks := tk' }) :
    wpAny (model PySem.Challenge.rw_nb0235_01.row.prog w) (ktrTop dp un gd cn cs L a ccd cl outer) (call (.ref 96) [.int n t, v, .ref 103]) Q E s := by
  revert X; k_fill; intro X
  refine wpAny_call ?_
  refine' enterT ?k1 ?k2 ?k3 ?k4 ?k5 ?kA ?kF ?kK ?k6 ?k7 ?k8 ?k9 ?kB ?kD ?_ ?c2 ?c3 ?c4; (case kA => exact rfl); (case kF => exact rfl); (case kK => assumption); (case k1 => k_asm); (case k2 => k_asm); (case k3 => k_asm); (case k4 => k_asm); (case k5 => k_asm); (case k6 => k_is); (case k7 => k_is); (case k8 => ktr_room); (case k9 => first | exact BindsTo.of_eq rfl | exact binds_K (by k_in) rfl (by k_is) rfl rfl rfl | fail "k_enter: no rule for these arguments"); (case kB => exact rfl); (case kD => decide +kernel); (case c2 => exact rfl); (case c3 => exact rfl); (case c4 => exact rfl); k_whole; intro g' L' h1 tk1 cells1 FG F1 N1 Y1 B1 X1 T1 l1; k_cells Y1; (try simp only [List.cons_append, List.nil_append] at N1); (try dsimp only); (try k_unmd); (try k_fold)
  rename_i oc dc
  obtain ⟨m0, F1⟩ := fr_abs F1 [(Str.ofString "n", .int n t), (Str.ofString "iterable", v)] (List.forall_mem_cons.mpr ⟨rfl, List.forall_mem_cons.mpr ⟨rfl, fun _ h => (nomatch h)⟩⟩)
  dsimp only [putM] at F1
  replace dc : oc.data = .cell (some (.ref 103)) := dc
  k_steps
  · unfold Hold
    refine iter_any hv F1 N1 hR (fun p hp => Nat.ne_of_lt (Nat.lt_succ_of_lt (l1 p hp))) ?_
    intro I o h2 ho F2 N2 off2
    clear F1 N1
    k_steps
    unfold Hold
    refine call_object (by k_asm) (by k_asm) ?_
    intro S h3 F3 N3 off3
    k_steps
    rename_i F4 N4
    unfold Hold
    show wpAny _ _ (call (.builtin "max") [.ref I] [(Str.ofString "default", .ref S), (Str.ofString "key", .ref 103)]) _ _ _
    refine max_key (vs := rs) (l := R) (K := Kv) (d := .ref S) rfl F4 (news_swap N4) ho (fun p hp => ?_) (fun h _ N => PySem.IsL.isList (n := nR) (N _ (.tail _ (.tail _ hR))).1)
      (keycall B1 X1 T1 rfl (lim (b := 2) hd (by decide)) (lim (b := 12) hu (by decide)) hrs hts) ?_ ?_
    · rcases List.mem_cons.mp hp with rfl | hp
      · exact (off3 (I, o) (.head _)).symm
      · exact off2 p hp
    · intro e h' tk' F5 N5
      k_steps
      rename_i lD
      unfold Hold
      refine leaveT (by k_asm) (by k_asm) KtsTurn.refl ?_
      intro h₀' T9 F9 N9 B9
      have hl := hrs.length
      rw [e] at hl
      refine ret h₀' _ _ _ _ _ [] T9 B9 F9 (drop2 N9) (fun p hp => Nat.ne_of_lt (Nat.lt_trans (Nat.lt_succ_of_lt (l1 p (List.mem_append_right _ hp))) lD.2.1)) .nil Best.nil ?_
      simp at hl ⊢; lia
    · intro i h' tk' hi F5 N5
      have hl := hrs.length
      have hil : i < ts.length := by rw [← hl]; exact hi.1
      obtain ⟨tx, ex⟩ := strs_at hrs hil
      rw [ex]
      k_steps
      unfold Hold
      refine wpAny_is_other rfl (by intro h; cases h) ?_
      k_steps
      rename_i lD
      unfold Hold
      refine leaveT (by k_asm) (by k_asm) KtsTurn.refl ?_
      intro h₀' T9 F9 N9 B9
      refine ret h₀' _ _ _ _ _ [i] T9 B9 F9 (drop2 N9) (fun p hp => Nat.ne_of_lt (Nat.lt_trans (Nat.lt_succ_of_lt (l1 p (List.mem_append_right _ hp))) lD.2.1)) (.cons _ _ .nil) (best_of_isL hrs hi) ?_
      have hn1 : n = 1 := by assumption
      subst hn1
      simp; lia
  · unfold Hold
    refine cut_next (NsC (ktrTop dp un gd cn cs L a ccd cl outer) base (envX cn cs L a ccd cl) outer s g' L' ((L' + 1, oc) :: (pre ++ news)) n t v) ?_ ?_
    · refine wpAny_Try_except ?_
      k_steps
      unfold Hold
      rcases id hv with ⟨e1, e2⟩ | ⟨I, o, e1, e2, ho, off⟩
      · rw [e2]
        refine at_len N1 (.tail _ (List.mem_append_right _ hR)) (by lia) ?_
        subst e1
        subst e2
        k_steps
        · rename_i F5 N5 hsz
          unfold Hold
          show wpAny _ _ (call (.builtin "sorted") [.ref R] [(Str.ofString "key", .ref 103), (Str.ofString "reverse", .bool true)]) _ _ _
          rcases hrn with h0 | h2
          · subst h0
            refine sorted_nil (b := true) (f := .ref 103) F5 N5 (.tail _ hR) (args_sorted_kr _ _ _) (fun x => args_lsort_kr _ _ _) (fun x => ksk_t2 103 x true) ?_
            intro D n' h6 F6 N6 off6
            k_steps
            unfold Hold
            refine kba_turn (value' := .Name Str.empty default) (fun _ => rfl) ?_
            refine kmk_slice (lo := none) (hi := some n) F6 N6 (PySem.IsL.isList (n := n') (N6 _ (.head _)).1) .none (.int _ _) ?_ (by with_unfolding_all rfl) (by intro _; with_unfolding_all rfl) (by simp)
            intro D7 h7 F7 N7 lt7
            dsimp only [CutP]
            refine leaveT F7 N7 KtsTurn.refl ?_
            intro h₀' T9 F9 N9 B9
            have hl := hrs.length
            have e9 : slicePick ([] : List Value).toArray none (some n) none = #[] := by
              rw [show n = ((n.toNat : Nat) : Int) by simp at hsz; lia, slicePick_upto']; simp
            rw [e9] at N9
            refine ret h₀' _ _ _ _ _ [] T9 B9 F9 (drop2 N9) (fun p hp => Nat.ne_of_lt (lt7 p (.tail _ (.tail _ hp)))) .nil Best.nil ?_
            simp at hl ⊢; lia
          · refine sorted_key (b := true) (f := .ref 103) (K := Kv) F5 N5 (.tail _ hR) h2 (by lia) (args_sorted_kr _ _ _) (fun x => args_lsort_kr _ _ _) (fun x => ksk_t2 103 x true)
              (keycall B1 X1 T1 rfl (lim (b := 2) hd (by decide)) (lim (b := 13) hu (by decide)) hrs hts) ?_
            intro p D n' h6 tk6 hst F6 N6 off6
            k_steps
            unfold Hold
            have hps : p.size = rs.length := hst.sz
            refine kba_turn (value' := .Name Str.empty default) (fun _ => rfl) ?_
            refine kmk_slice (lo := none) (hi := some n) F6 N6 (PySem.IsL.isList (n := n') (N6 _ (.head _)).1) .none (.int _ _) ?_ (by with_unfolding_all rfl) (by intro _; with_unfolding_all rfl) (by simp [katRev, hps, sizeLine_eq]; lia)
            intro D7 h7 F7 N7 lt7
            dsimp only [CutP]
            refine leaveT F7 N7 KtsTurn.refl ?_
            intro h₀' T9 F9 N9 B9
            have hl := hrs.length
            have hb : Best (ltL (kyOf ts)) ts.length (p.toList.map fun i => ts.length - 1 - i).reverse := by
              refine sorted_large (ky := kyOf ts) (N := ts.length) (p := p) ?_
              rw [hl] at hst
              refine st_ext hst fun a b ha hb => ?_
              obtain ⟨t1, g1⟩ := strs_at hrs (k := ts.length - 1 - a) (by lia)
              obtain ⟨t2, g2⟩ := strs_at hrs (k := ts.length - 1 - b) (by lia)
              rw [katRev_at (by lia), katRev_at (by lia), hl, g1, g2]
            have e9 : slicePick (katRev true (p.toList.map fun i => (katRev true rs).getD i .none)).toArray none (some n) none = ((p.toList.map fun i => ts.length - 1 - i).reverse.map fun i => rs.getD i .none).toArray := by
              rw [show n = ((n.toNat : Nat) : Int) by lia, slicePick_upto']
              have e8 : (katRev true (p.toList.map fun i => (katRev true rs).getD i .none)) = ((p.toList.map fun i => ts.length - 1 - i).reverse.map fun i => rs.getD i .none) := by
                rw [List.map_reverse, List.map_map]
                unfold katRev
                rw [if_pos rfl]
                congr 1
                refine List.map_congr_left fun i hi => ?_
                have hi' : i < rs.length := by
                  have := (hst.perm)
                  rw [Array.perm_iff_toList_perm] at this
                  have := this.mem_iff.mp hi
                  simpa using this
                have := katRev_at (rs := rs) hi'
                unfold katRev at this
                rw [if_pos rfl] at this
                rw [if_pos rfl, this, hl]
                rfl
              rw [e8]
              show (List.take n.toNat _).toArray = _
              rw [List.take_of_length_le (by simp [hps]; lia)]
            rw [e9] at N9
            refine ret h₀' _ _ _ _ _ (p.toList.map fun i => ts.length - 1 - i).reverse T9 B9 F9 (drop2 N9) (fun p hp => Nat.ne_of_lt (lt7 p (.tail _ (.tail _ hp)))) (strs_map hrs hb.low) hb ?_
            simp [hps]; lia
        · exact ⟨g', _, _, _, rfl, KtsTurn.refl, by k_asm, by k_asm, B1, rfl, rfl⟩
      · rw [e2]
        refine len_raises ⟨o, (N1 (I, o) (by rw [e1]; exact .tail _ (.head _))).1, ho.1⟩ rfl ?_
        intro h2 tk2 e hx
        refine caughtT B1 hx F1 N1 XB TB rfl (by k_is) (by boot_by_name) (by decide) rfl (by decide) (by k_is) (by boot_by_name) (by decide) rfl (by decide) (by kts_exm) ?_
        intro h3 g3 T3 F3 N3 B3 X3 P3
        k_steps
        exact ⟨g3, h3, _, _, rfl, T3, F3, N3, B3, rfl, e2 ▸ rfl⟩
    · rintro _ ⟨g2, h2, tk2, m2, rfl, T2, F2, N2, B2, mn, mi⟩
      replace F2 := puts F2 [(Str.ofString "n", .int n t), (Str.ofString "iterable", v)] (pm mn (pm mi pn))
      dsimp only [putM] at F2
      have X2 := XB.keeps B2.stays
      have P2 := TB.keeps B2.stays
      clear F1 N1 X1 T1 B1
      dsimp only
      k_steps
      unfold Hold
      refine iter_any hv F2 N2 hR (fun p hp => Nat.ne_of_lt (Nat.lt_succ_of_lt (l1 p hp))) ?_
      intro I o h3 ho F3 N3 off3
      clear F2 N2
      k_steps
      rename_i F4 N4
      unfold Hold
      refine lc_assignF F4 (cl := [(Str.ofString "key", L' + 1)]) rfl (by rfl) (by rfl) (by decide) rfl (by decide) rfl rfl ?_
      k_steps
      rename_i hRg F5 N5 up5
      unfold Hold
      refine call_zip_ri hRg (small_rngL hn) F5 N5 ho ?_
      intro h6 z TI TO i1 F6 N6 o1 o2 o3 old6
      refine wpAny_pyIter_zip (N6 _ (.head _)).1 ?_
      have hI5 : I < i1 := old6 _ _ (N5 _ (.head _)).1
      have hnews5 : ∀ p ∈ (L' + 1, oc) :: news, p.1 < i1 := fun p hp => old6 _ _ (N5 _ (.tail _ hp)).1
      have hRi : R < i1 := hnews5 _ (.tail _ hR)
      have hRI : R ≠ I := off3 _ (.tail _ hR)
      refine zip_lcat (base := (L' + 1, oc) :: news) (l := R) (rs := rs) (nl := nR) rfl rfl rfl (by decide) rfl F6 N6 ho (za_of o1 o2 o3 hI5 hRi hRI) (fun p hp => offz_of o1 o2 o3 (hnews5 p hp) (off3 p hp)) (.tail _ hR) (by lia)
        (TC (fun x => -x) ts) TC.nil (fun ys G k h => h.len) ?_ ?_
      · intro k ys G v9 C oC D m9 h9 tk9 t9 nw hk9 hkN hv9 hT hoC mi1 mi2 hsub F9 N9
        have hfo_e : ∃ fo fd, g2.get? 103 = some fo ∧ fo.data = .func fd := ⟨_, _, X2 103 _ (by k_is), rfl⟩
        have hfo := hfo_e.choose_spec.choose_spec.1
        have hfd := hfo_e.choose_spec.choose_spec.2
        obtain ⟨tv, ev⟩ := strs_at hrs (k := k) (by rw [← hrs.length]; exact hk9)
        have ev9 : v9 = .str (txt ts k) tv := by
          rw [← ev]; simp [List.getD, hv9]
        subst ev9
        refine elt_tup rfl rfl rfl rfl rfl F9 N9 (.tail _ (.tail _ (hsub _ (List.mem_append_right _ (.head _))))) dc hfo hfd (.head _) hoC mi2 mi1
          (keycall B2 X2 P2 rfl (lim (b := 2) hd (by decide)) (lim (b := 11) hu (by decide)) hrs hts) (List.mem_of_getElem? hv9) ?_
        intro a1 h10 tk10 t10 F10 N10 off10
        exact ⟨h10, tk10, a1, _, rfl, F10, N10, off10, hT.snoc (fun p hp => off10 p (.tail _ (.tail _ (hsub p (List.mem_append_left _ hp))))) (by show -(0 + (k : Int) * -1) = k; lia)⟩
      · intro k ys G o2' hT hkl hend hkm hoff D9 h9 tk9 F9 N9 off9
        have hyl := hT.len
        have hrl := hrs.length
        have hN0 : Builtin.Range.rangeSize 0 (-n) (-1) = max n 0 := by
          unfold Builtin.Range.rangeSize
          rw [if_neg (by decide)]
          split <;> ((try simp only [Int.neg_neg, Int.ediv_one]); lia)
        rw [hN0] at hend hkm
        replace N9 : News g2 L' h9 ((D9, listOf ys.toArray ys.length) :: (I, o2') :: (G ++ (L' + 1, oc) :: news)) := N9
        k_steps
        · rename_i hem
          have hye : ys = [] := List.isEmpty_iff.mp hem
          unfold Hold
          dsimp only
          refine leaveT (by exact F9) (by exact N9) T2 ?_
          intro h₀' T9 F10 N10 B9
          subst hye
          refine ret h₀' D9 _ h9 _ #[] [] T9 B9 F10 (news_sub N10 fun p hp => (List.mem_cons.mp hp).elim (fun e => e ▸ .head _) fun h => .tail _ (.tail _ (List.mem_append_right _ (.tail _ h)))) (fun p hp => off9 p (.tail _ (List.mem_append_right _ (.tail _ hp)))) .nil Best.nil ?_
          simp at hyl ⊢
          lia
        · rename_i hem
          have hyn : 0 < ys.length := by
            cases ys with
            | nil => simp at hem
            | cons _ _ => simp
          obtain ⟨f, g, hgm, hTT⟩ := hT
          have hS : ∀ v ∈ ys, TupIn ((I, o2') :: (G ++ (L' + 1, oc) :: news)) v (f v) := fun v hv => (hTT.tup v hv).mono fun p hp => .tail _ (List.mem_append_left _ hp)
          have hlt0 : LtOk (fun v u => ilt (f v) (f u)) (· ∈ ys) ((I, o2') :: (G ++ (L' + 1, oc) :: news)) := ltok_tup hS fun v u hv hu e => hTT.rel.same hv hu (congrArg Neg.neg e)
          unfold Hold
          refine heapify_c (its := ys) (lt := fun v u => ilt (f v) (f u)) (S := (· ∈ ys)) (by k_asm) (by exact F9) (by k_asm) (by exact N9) (by k_asm) rfl (lim (b := 4) hd (by decide)) (lim (b := 27) hu (by decide)) (by lia) hlt0 (fun _ h => h) off9 ?_
          intro h10 tk10 F10 N10
          obtain ⟨cur0, hcp, hcH, N10⟩ : ∃ cur0 : List Value, cur0.Perm ys ∧ Hp (fun x y => ilt (f x) (f y)) 0 cur0 ∧ News g2 L' h10 ((D9, listOf cur0.toArray ys.length) :: (I, o2') :: (G ++ (L' + 1, oc) :: news)) := ⟨_, hfF_perm _ _ (by lia), heapify_hp vo_min ys, N10⟩
          have hcl := hcp.length_eq
          have hT0 := hTT.perm hcp
          have hroot := getD_mem (l := cur0) (k := 0) (by lia)
          obtain ⟨a0, t1, t2, t3, nn, e0, m0⟩ := hT0.tup _ hroot
          k_steps
          unfold Hold
          refine at_subv (its := cur0) (n := ys.length) (by exact N10) (.head _) (by decide) (by lia) (by lia) e0 ?_ (by with_unfolding_all rfl)
          k_steps
          unfold Hold
          refine kba_turn (value' := .Name Str.empty default) (fun _ => rfl) ?_
          refine item_tupleL (l := [.str (f (cur0.getD 0 .none)).key t1, .int (f (cur0.getD 0 .none)).ord t2, .str (f (cur0.getD 0 .none)).el t3]) (j := 0) ⟨_, (N10 _ (.tail _ (.tail _ (List.mem_append_left _ m0)))).1, rfl, nn, rfl⟩ (by decide) (by decide) rfl rfl ?_ (by with_unfolding_all rfl) (by intro _; with_unfolding_all rfl)
          k_steps
          rename_i F11 N11
          unfold Hold
          k_dflt (refine for_c ?_)
          k_steps
          refine pyIter_it (by exact (N11 _ (.tail _ (.head _))).1) (hend.elim (fun h => h.1.1) (fun h => h.1.1)) ?_
          refine for_it (s₀ := s) (R := R) (rs := rs) (nR := nR) (j₀ := k) rfl rfl F11 (news_swap N11) (fun p hp => ?_) (hend.elim (fun h => .inl ⟨h.1, hkl⟩) (fun h => .inr ⟨h.1, h.2.1⟩)) (fun _ => rfl)
            (HJ (fun x => -x) (ltL (kyOf ts)) ilt 35 ts D9 k ((L' + 1, oc) :: news))
            ⟨cur0, f, g, _, G, t1, _, -n, rfl, fun p hp => off9 p (.tail _ hp), by lia, hT0.weak (by lia), (Kept.start hgm).perm hcp, hcH, rfl, rfl, rfl, rfl⟩ ?_ ?_ ?_
          · rcases List.mem_cons.mp hp with rfl | hp
            · exact (off9 _ (.head _)).symm
            · exact hoff p hp
          · rintro j m' tl' ⟨cur, f, g, nD, G, tt, to, ord, rfl, -⟩
            exact .tail _ (List.mem_append_right _ (.tail _ hR))
          · rintro j m' tl' h12 tk12 o12 v12 hj hv12 hit F12 N12 off12 ⟨cur, f, g, nD, G, tt, to, ord, rfl, offD, hck, hTT, hK, hH, m1, m2, m3, m4⟩
            obtain ⟨tv, ev⟩ := strs_at hrs (k := j) (by rw [← hrl]; exact hj)
            have ev9 : v12 = .str (txt ts j) tv := by
              rw [← ev]; simp [List.getD, hv12]
            subst ev9
            replace F12 := puts F12 [(Str.ofString "top", .str (f (cur.getD 0 .none)).key tt), (Str.ofString "order", .int ord to), (Str.ofString "result", .ref D9), (Str.ofString "_heapreplace", .ref 35)] (pm m1 (pm m2 (pm m3 (pm m4 pn))))
            dsimp only [putM] at F12
            clear F11 N11
            replace N12 : News g2 L' h12 ((L' + 1, oc) :: (I, o12) :: (D9, listOf cur.toArray nD) :: (G ++ (L' + 1, oc) :: news)) := news_sub N12 fun p hp => (List.mem_cons.mp hp).elim (fun e => e ▸ .tail _ (.tail _ (List.mem_append_right _ (.head _)))) id
            k_steps
            unfold Hold
            have hjt : txt ts j ∈ ts := by
              have : j < ts.length := by lia
              simp [txt, List.getD, this]
            refine strip_c (by k_asm) (by k_asm) (by k_asm) (by k_asm) (by k_asm) rfl (lim (b := 2) hd (by decide)) (lim (b := 11) hu (by decide)) (hts _ hjt) ?_
            intro t13 h13 tk13 F13 N13
            k_steps
            · rename_i hltq D14 h14 F14 N14 l14
              have hsl : slt (f (cur.getD 0 .none)).key (kyOf ts j) = true := decide_eq_true hltq
              have fresh14 : ∀ p ∈ G ++ (L' + 1, oc) :: news, p.1 < D14 := allLt_mem l14.2.2.2
              have hadd := hTT.add (a := D14) (k := j) (n := 0) (t1 := t13) (t2 := to) (t3 := tv) (od := ord) (fun p hp => Nat.ne_of_lt (fresh14 p (List.mem_append_left _ hp))) hK.low rfl
              have hin := in_large (a := D14) (n := 0) (t1 := t13) (t2 := to) (t3 := tv) (od := ord) hTT hK hH (by lia) hsl (fun p hp => Nat.ne_of_lt (fresh14 p (List.mem_append_left _ hp))) rfl
              have hltB : LtOk (fun v u => ilt (upd f D14 ⟨kyOf ts j, ord, txt ts j⟩ v) (upd f D14 ⟨kyOf ts j, ord, txt ts j⟩ u)) (· ∈ Value.ref D14 :: cur) ((D14, tupObj [.str (kyOf ts j) t13, .int ord to, .str (txt ts j) tv] 0) :: (L' + 1, oc) :: (I, o12) :: (G ++ (L' + 1, oc) :: news)) :=
                ltok_tup (fun v hv => (hadd.tup v hv).mono fun p hp => (List.mem_cons.mp hp).elim (fun e => e ▸ .head _) fun h => .tail _ (.tail _ (.tail _ (List.mem_append_left _ h)))) fun v u hv hu e => hadd.rel.same hv hu (congrArg Neg.neg e)
              have N14' : News g2 L' h14 ((D9, listOf cur.toArray nD) :: (D14, tupObj [.str (kyOf ts j) t13, .int ord to, .str (txt ts j) tv] 0) :: (L' + 1, oc) :: (I, o12) :: (G ++ (L' + 1, oc) :: news)) := news_rot N14
              unfold Hold
              refine heapreplace_c (its := cur) (y := .ref D14) (n := nD) (lt := fun v u => ilt (upd f D14 ⟨kyOf ts j, ord, txt ts j⟩ v) (upd f D14 ⟨kyOf ts j, ord, txt ts j⟩ u)) (S := (· ∈ Value.ref D14 :: cur)) (by k_asm) (by exact F14) (by k_asm)
                (by exact N14') (by k_asm) rfl (lim (b := 4) hd (by decide)) (lim (b := 27) hu (by decide)) (by lia) (by lia) hltB (fun x hx => .tail _ hx) (.head _) (Mine.oc (Nat.ne_of_gt l14.2.2.1) (Mine.oc (offD _ (List.mem_append_right _ (.head _))) (Mine.oc ((off12 _ (.head _)).symm) offD))) ?_
              · intro h15 tk15 F15 N15
                obtain ⟨f2, g9, cur2, hT2, hK2, hH2, hl2, N16⟩ : ∃ (f2 : Value → It) (g9 : Value → Nat) (cur2 : List Value), TT (fun x => -x) ts f2 g9 cur2 ((D14, tupObj [.str (kyOf ts j) t13, .int ord to, .str (txt ts j) tv] 0) :: G) (-ord + 1) ∧ Kept (ltL (kyOf ts)) (j + 1) cur2 g9 ∧
                    Hp (fun x y => ilt (f2 x) (f2 y)) 0 cur2 ∧ cur2.length = cur.length ∧ News g2 L' h15 ((D9, listOf cur2.toArray nD) :: (D14, tupObj [.str (kyOf ts j) t13, .int ord to, .str (txt ts j) tv] 0) :: (L' + 1, oc) :: (I, o12) :: (G ++ (L' + 1, oc) :: news)) := ⟨_, _, _, hin.1, hin.2.1, hin.2.2.1, hin.2.2.2, N15⟩
                clear N15 hin hadd hltB
                have hroot2 := getD_mem (l := cur2) (k := 0) (by lia)
                obtain ⟨a2, u1, u2, u3, nn2, e2, m02⟩ := hT2.tup _ hroot2
                have m02' : (a2, tupObj [.str (f2 (cur2.getD 0 .none)).key u1, .int (f2 (cur2.getD 0 .none)).ord u2, .str (f2 (cur2.getD 0 .none)).el u3] nn2) ∈ (D9, listOf cur2.toArray nD) :: (D14, tupObj [.str (kyOf ts j) t13, .int ord to, .str (txt ts j) tv] 0) :: (L' + 1, oc) :: (I, o12) :: (G ++ (L' + 1, oc) :: news) :=
                  (List.mem_cons.mp m02).elim (fun e => e ▸ .tail _ (.head _)) fun h => .tail _ (.tail _ (.tail _ (.tail _ (List.mem_append_left _ h))))
                k_steps
                unfold Hold
                refine at_subv (its := cur2) (n := nD) (by exact N16) (.head _) (by decide) (by lia) (by lia) e2 ?_ (by with_unfolding_all rfl)
                k_steps
                unfold Hold
                refine unpackN_ (items := #[.str (f2 (cur2.getD 0 .none)).key u1, .int (f2 (cur2.getD 0 .none)).ord u2, .str (f2 (cur2.getD 0 .none)).el u3]) (by exact F15) (by exact N16) ⟨_, (N16 _ m02').1, rfl, nn2, rfl⟩ rfl rfl rfl ?_
                intro h17 F17 N17
                k_steps
                rename_i F18 N18
                unfold Hold
                exact ⟨_, _, _, o12, _, rfl, F18, news_back N18, fun p hp => (List.mem_cons.mp hp).elim (fun e => by rw [e]; exact off12 (D9, listOf cur.toArray nD) (.head _)) fun h => (List.mem_cons.mp h).elim (fun e => e ▸ Nat.ne_of_gt l14.2.1) fun h => off12 p (.tail _ h), hit, cur2, f2, g9, nD, (D14, tupObj [.str (kyOf ts j) t13, .int ord to, .str (txt ts j) tv] 0) :: G, u1, _, ord - 1, rfl,
                  fun p hp => (List.mem_cons.mp hp).elim (fun e => e ▸ Nat.ne_of_gt l14.2.2.1) fun h => offD p h, by lia, hT2.weak (by lia), hK2, hH2, rfl, rfl, rfl, rfl⟩
            · rename_i F14 N14 hltq
              have hsl : slt (f (cur.getD 0 .none)).key (kyOf ts j) = false := decide_eq_false hltq
              unfold Hold
              exact ⟨_, _, _, o12, _, rfl, F14, fun p hp => N14 p (.tail _ hp), off12, hit, cur, f, g, nD, G, tt, to, ord, rfl, offD, hck, hTT, out_large hTT hK hH (by lia) hsl, hH, rfl, rfl, rfl, rfl⟩
          · rintro m' tl' h20 tk20 F20 N20 ⟨cur, f, g, nD, G, tt, to, ord, rfl, offD, hck, hTT, hK, hH, m1, m2, m3, m4⟩
            replace F20 := puts F20 [(Str.ofString "result", .ref D9)] (pm m3 pn)
            dsimp only [putM] at F20
            clear F11 N11
            have h2 : 2 ≤ cur.length := by
              rcases hend with ⟨_, q⟩ | ⟨_, q, _⟩
              · lia
              · rcases hrn with e | e
                · rw [e] at q; simp at q; lia
                · lia
            k_steps
            dsimp only
            refine callWith_kw0 (kws_cons ?_)
            k_steps
            unfold Hold
            show wpAny _ _ (call (.builtin "list.sort") [.ref D9] [(Str.ofString "reverse", .bool true)]) _ _ _
            refine sort_tup_rev (f := f) (vs := cur) (n := nD) (by exact F20) (by exact N20) offD h2 (by lia) (fun v hv => (hTT.tup v hv).mono fun p hp => List.mem_append_left _ hp) (fun v hv u hu e => hTT.rel.same hv hu (congrArg Neg.neg e)) ?_
            intro p n21 h21 hst F21 N21
            obtain ⟨out, hbest, hperm, N22⟩ : ∃ out : List Value, Best (ltL (kyOf ts)) rs.length (out.map g) ∧ out.Perm cur ∧ News g2 L' h21 ((D9, listOf out.toArray n21) :: (G ++ (L' + 1, oc) :: news)) := ⟨_, (fin_large hK hTT.rel hst).1, (fin_large hK hTT.rel hst).2, N21⟩
            clear N21 N20 F20
            k_steps
            unfold Hold
            have hol := hperm.length_eq
            have hTo := hTT.perm hperm
            refine lc_valueF (by exact F21) (cl := []) (by rfl) (by decide) rfl (by decide) ?_
            k_steps
            unfold Hold
            refine wpAny_pyIter_list (PySem.IsL.isList (n := n21) (by exact (N22 _ (.head _)).1)) ?_
            refine list_lcat (its := out) (nl := n21) (l := D9) (nb₀ := (D9, listOf out.toArray n21) :: (G ++ (L' + 1, oc) :: news)) rfl (by exact F21.push _) (by exact News.push F21 N22 _) ⟨rfl, rfl⟩ (fun p hp => Nat.ne_of_lt (Heap.lt_size (N22 p hp).1)) (by lia)
              (fun ys nb k => nb = (D9, listOf out.toArray n21) :: (G ++ (L' + 1, oc) :: news) ∧ ys.length = k ∧ StrsAre ys ((out.take k).map fun v => (f v).el)) ⟨rfl, rfl, .nil⟩ (fun ys nb k h => ⟨h.1 ▸ .head _, Nat.le_of_eq h.2.1⟩)
              (.inr ⟨_, _, _, rfl, fun v hv => by obtain ⟨a, _, _, _, _, e, _⟩ := hTo.tup v hv; exact ⟨a, e⟩⟩) ?_ ?_
            · rintro i v hi hv ys nb C oC D m9 h22 tk22 io ⟨rfl, hys, hst2⟩ hoC F22 N23 hCD hIC hID off22
              have hvm := List.mem_of_getElem? hv
              obtain ⟨a3, w1, w2, w3, n3, rfl, m33⟩ := hTo.tup v hvm
              refine asg3 rfl rfl rfl rfl rfl F22 (by exact N23) hoC (off_c hCD hIC off22) ⟨_, (N23 _ (.tail _ (.tail _ (.tail _ (.tail _ (List.mem_append_left _ m33)))))).1, rfl, n3, rfl⟩ ?_
              · intro h24 oC4 tk24 F24 N24 hoC4
                refine wpAny_tests_nil ?_
                refine cif_pos rfl ?_
                refine cname_l rfl rfl N24 (.head _) hoC4 rfl ?_
                refine ⟨h24, tk24, oC4, _, _, rfl, hoC4, F24, N24, off22, rfl, by simp [hys], ?_⟩
                rw [List.take_add_one, hv, List.map_append]
                exact kct_snoc hst2
            · rintro ys nb ⟨rfl, hys, hst2⟩ D25 h25 tk25 F25 N25 off25
              rw [List.take_length] at hst2
              dsimp only
              refine leaveT (by exact F25) (by exact N25) T2 ?_
              intro h₀' T9 F26 N26 B9
              have ee : (out.map fun v => (f v).el) = (out.map g).map (txt ts) := by
                rw [List.map_map]
                exact List.map_congr_left fun v hv => hTo.rel.el v hv
              rw [ee] at hst2
              rw [hrl] at hbest
              refine ret h₀' D25 _ h25 _ ys.toArray (out.map g) T9 B9 F26 (news_sub N26 fun p hp => (List.mem_cons.mp hp).elim (fun e => e ▸ .head _) fun h => .tail _ (.tail _ (List.mem_append_right _ (.tail _ h)))) (fun p hp => off25 p (.tail _ (List.mem_append_right _ (.tail _ hp)))) hst2 hbest ?_
              rw [List.length_map, hol, hck]
              rcases hend with ⟨_, q⟩ | ⟨_, q, q2⟩
              · exact mlen1 (by rw [← hrl]; exact hkl) q hkm
              · exact mlen2 (by rw [← hrl]; exact q) q2
end Mine
end

section
-- PureF
open PySem PySem.W PyProof.Rows PySem.Builtin PySem.Builtin.Str
set_option Elab.async false
set_option linter.unusedVariables false
namespace Mine
noncomputable def clipS (n : Nat) (v : Option Int) (d : Nat) : Nat := match v with | none => d | some i => (max 0 (min (if i < 0 then i + n else i) n)).toNat
theorem clipS_le {n d : Nat} {v : Option Int} (h : d ≤ n) : clipS n v d ≤ n := by
  cases v with
  | none => exact h
  | some i => exact Int.toNat_le.mpr (Int.max_le.mpr ⟨Int.natCast_nonneg n, Int.min_le_right _ _⟩)
theorem slice_list' (x : Str) (l u : Option Int) : (Txt.slice x l u).cps.toList = (x.cps.toList.drop (clipS x.length l 0)).take (clipS x.length u x.length - clipS x.length l 0) := by
  have hi : strSliceIndices l u 1 x.length = sliceRange (clipS x.length l 0 : Nat) (clipS x.length u x.length : Nat) 1 := by
    unfold strSliceIndices clipS
    cases l <;> cases u <;> simp only [show (1 : Int) > 0 by decide, if_true] <;> (congr 1 <;> first | rfl | exact (Int.toNat_of_nonneg (Int.le_max_left _ _)).symm)
  have hp : ((strSliceIndices l u 1 x.length).filterMap (x.cps[·]?)) = (x.cps.toList.drop (clipS x.length l 0)).take (clipS x.length u x.length - clipS x.length l 0) := by
    rw [hi, sliceRange_one, pick_run]
  have ha := clipS_le (n := x.length) (v := l) (Nat.zero_le _)
  have hb := clipS_le (n := x.length) (v := u) (Nat.le_refl _)
  have hx : x.cps.toList.length = x.length := Array.length_toList
  unfold Txt.slice
  split
  · rename_i h
    rw [hi, sliceRange_one] at h
    simp at h
    generalize clipS x.length l 0 = a at *
    generalize clipS x.length u x.length = b at *
    by_cases h0 : x.length = 0
    · have : x.cps.toList = [] := List.length_eq_zero_iff.mp (by lia)
      rw [this]; simp
    · have e1 : a = 0 := by lia
      have e2 : b = x.length := by lia
      rw [e1, e2, List.drop_zero, List.take_of_length_le (by lia)]
  · simpa using hp
theorem str_ext {x y : Str} (h : x.cps.toList = y.cps.toList) : x = y := by
  cases x; cases y
  simp only [Str.mk.injEq]
  exact Array.toList_inj.mp h
theorem len_str (x : Str) : x.length = x.cps.toList.length := Array.length_toList.symm
theorem sub_iff {x : Str} {i : Nat} : subAt x qq i = true ↔ (x.cps.toList.drop i).take 1 = [34] := by
  have hq : qq.cps = #[34] := by decide
  have hl : qq.length = 1 := by decide
  unfold subAt
  rw [hq, hl, beq_iff_eq]
  constructor
  · intro h
    have := congrArg Array.toList h
    simp at this
    simpa [Array.toList_extract, List.extract_eq_take_drop] using this
  · intro h
    apply Array.toList_inj.mp
    simpa [Array.toList_extract, List.extract_eq_take_drop] using h
theorem starts_iff {x : Str} : Txt.startswith x qq = true ↔ x.cps.toList.take 1 = [34] := by
  have hl : qq.length = 1 := by decide
  unfold Txt.startswith
  rw [hl, Bool.and_eq_true, sub_iff, decide_eq_true_eq, List.drop_zero, len_str]
  constructor
  · exact fun h => h.2
  · intro h
    have := congrArg List.length h
    simp at this
    exact ⟨by simp; lia, h⟩
theorem sub_p (n : Nat) : n - (n - 1) ≤ 1 := by
  cases n with
  | zero => exact Nat.zero_le _
  | succ k => rw [Nat.add_sub_cancel, Nat.add_sub_cancel_left]; exact Nat.le_refl _
theorem min_pos {n a b : Nat} (h : min 1 (n - a - b) = 1) : 1 ≤ n :=
  Nat.pos_of_ne_zero fun h0 => by rw [h0, Nat.zero_sub, Nat.zero_sub] at h; exact absurd h (by decide)
theorem ends_iff {x : Str} : Txt.endswith x qq = true ↔ (x.cps.toList.drop (x.cps.toList.length - 1)).take 1 = [34] := by
  have hl : qq.length = 1 := by decide
  unfold Txt.endswith
  rw [hl, Bool.and_eq_true, sub_iff, decide_eq_true_eq, len_str]
  constructor
  · exact fun h => h.2
  · intro h
    have := congrArg List.length h
    simp at this
    exact ⟨by simp; lia, h⟩
noncomputable def cut1 (cs : List Nat) : List Nat := if cs.take 1 = [34] then cs.drop 1 else cs
noncomputable def cut2 (cs : List Nat) : List Nat := if (cs.drop (cs.length - 1)).take 1 = [34] then cs.take (cs.length - 1) else cs
theorem clip_n (n i d : Nat) (h : i ≤ n) : clipS n (some (i : Int)) d = i := by
  show (max 0 (min (if (i : Int) < 0 then (i : Int) + n else i) n)).toNat = i
  rw [if_neg (Int.not_lt.mpr (Int.natCast_nonneg i)), Int.min_eq_left (Int.ofNat_le.mpr h), Int.max_eq_right (Int.natCast_nonneg i), Int.toNat_natCast]
theorem clip_m (n d : Nat) : clipS n (some (-1)) d = n - 1 := by
  cases n with
  | zero => rfl
  | succ k =>
    show (max 0 (min ((-1 : Int) + ((k + 1 : Nat) : Int)) ((k + 1 : Nat) : Int))).toNat = k
    rw [show (-1 : Int) + ((k + 1 : Nat) : Int) = k by rw [Int.add_comm, Int.natCast_succ, Int.add_neg_cancel_right], Int.min_eq_left (Int.ofNat_le.mpr (Nat.le_succ k)), Int.max_eq_right (Int.natCast_nonneg k), Int.toNat_natCast]
theorem nil_of {x : Str} (h : ¬ 1 ≤ x.length) : x.length = 0 ∧ x.cps.toList = [] := by
  have h0 : x.length = 0 := by lia
  exact ⟨h0, List.length_eq_zero_iff.mp ((len_str x).symm.trans h0)⟩
theorem sl_gen (x : Str) (i k : Nat) (hi : i ≤ x.length) (hk : k ≤ x.length) : (Txt.slice x (some (i : Int)) (some (k : Int))).cps.toList = (x.cps.toList.drop i).take (k - i) := by
  rw [slice_list', clip_n _ _ _ hi, clip_n _ _ _ hk]
theorem sl_from (x : Str) (i : Nat) (hi : i ≤ x.length) : (Txt.slice x (some (i : Int)) none).cps.toList = x.cps.toList.drop i := by
  rw [slice_list', clip_n _ _ _ hi, show clipS x.length none x.length = x.length from rfl, List.take_of_length_le (by rw [List.length_drop, ← len_str]; exact Nat.le_refl _)]
theorem sl_from1 (x : Str) : (Txt.slice x (some 1) none).cps.toList = x.cps.toList.drop 1 := by
  by_cases h : 1 ≤ x.length
  · exact sl_from x 1 h
  · obtain ⟨h0, h1⟩ := nil_of h
    rw [slice_list', h1, List.drop_nil, List.take_nil, List.drop_nil]
theorem sl_to1 (x : Str) : (Txt.slice x none (some (-1))).cps.toList = x.cps.toList.take (x.cps.toList.length - 1) := by
  rw [slice_list', clip_m, show clipS x.length none 0 = 0 from rfl, List.drop_zero, Nat.sub_zero, len_str]
theorem inn_list (x : Str) : (inn x).cps.toList = cut2 (cut1 x.cps.toList) := by
  have e1 : (if Txt.startswith x qq = true then Txt.slice x (some 1) none else x).cps.toList = cut1 x.cps.toList := by
    unfold cut1
    by_cases h : Txt.startswith x qq = true
    · rw [if_pos h, if_pos (starts_iff.mp h), sl_from1]
    · rw [if_neg h, if_neg (fun q => h (starts_iff.mpr q))]
  have e2 : ∀ y : Str, (if Txt.endswith y qq = true then Txt.slice y none (some (-1)) else y).cps.toList = cut2 y.cps.toList := fun y => by
    unfold cut2
    by_cases h : Txt.endswith y qq = true
    · rw [if_pos h, if_pos (ends_iff.mp h), sl_to1]
    · rw [if_neg h, if_neg (fun q => h (ends_iff.mpr q))]
  rw [← e1, ← e2]
  unfold inn
  by_cases h : Txt.startswith x qq = true
  · rw [if_pos h, if_pos h]
  · rw [if_neg h, if_neg h]
theorem qq_list : qq.cps.toList = [34] := by decide
theorem eq_qq {y : Str} : y = qq ↔ y.cps.toList = [34] := ⟨fun h => by rw [h]; exact qq_list, fun h => str_ext (by rw [h, qq_list])⟩
theorem sl_first (x : Str) : (Txt.slice x none (some 1)).cps.toList = x.cps.toList.take 1 := by
  rw [slice_list', show clipS x.length none 0 = 0 from rfl, List.drop_zero, Nat.sub_zero]
  by_cases h : 1 ≤ x.length
  · rw [show clipS x.length (some 1) x.length = 1 from clip_n _ 1 _ h]
  · rw [(nil_of h).2, List.take_nil, List.take_nil]
theorem sl_last (x : Str) : (Txt.slice x (some (-1)) none).cps.toList = (x.cps.toList.drop (x.cps.toList.length - 1)).take 1 := by
  rw [slice_list', clip_m, show clipS x.length none x.length = x.length from rfl, ← len_str]
  have h := len_str x
  rw [List.take_of_length_le (by rw [List.length_drop, ← h]; exact Nat.le_refl _), List.take_of_length_le (by rw [List.length_drop, ← h]; exact sub_p _)]
theorem fst1_or (x : Str) : ∃ i : Nat, fst1 x = (i : Int) ∧ i ≤ x.length ∧ cut1 x.cps.toList = x.cps.toList.drop i := by
  unfold fst1 cut1
  by_cases h : Txt.slice x none (some 1) = qq
  · have h' := eq_qq.mp h
    rw [sl_first] at h'
    rw [if_pos h, if_pos h']
    have := congrArg List.length h'
    rw [List.length_take, List.length_singleton, ← len_str] at this
    exact ⟨1, rfl, by lia, rfl⟩
  · rw [if_neg h, if_neg (fun q => h (eq_qq.mpr (by rw [sl_first]; exact q)))]
    exact ⟨0, rfl, Nat.zero_le _, rfl⟩
theorem inn2_list (x : Str) : (inn2 x).cps.toList = cut2 (cut1 x.cps.toList) := by
  obtain ⟨i, e1, hi, e2⟩ := fst1_or x
  have hc : (Txt.slice (Txt.slice x (some (fst1 x)) none) (some (-1)) none = qq) ↔ ((x.cps.toList.drop i).drop ((x.cps.toList.drop i).length - 1)).take 1 = [34] := by
    rw [eq_qq, sl_last, e1, sl_from x i hi]
  unfold inn2 cut2
  rw [e2]
  by_cases h : Txt.slice (Txt.slice x (some (fst1 x)) none) (some (-1)) none = qq
  · have h' := hc.mp h
    rw [if_pos h, if_pos h', e1]
    have hlen := congrArg List.length h'
    rw [List.length_take, List.length_drop, List.length_drop, List.length_singleton, ← len_str] at hlen
    rw [show (x.length : Int) - 1 = ((x.length - 1 : Nat) : Int) from (Int.natCast_sub (min_pos hlen)).symm, sl_gen x i _ hi (Nat.sub_le _ _), List.length_drop, ← len_str, Nat.sub_right_comm]
  · rw [if_neg h, if_neg (fun q => h (hc.mpr q)), e1, Int.sub_zero, sl_gen x i _ hi (Nat.le_refl _), List.take_of_length_le (by rw [List.length_drop, ← len_str]; exact Nat.le_refl _)]
theorem inn_eq (x : Str) : inn2 x = inn x := str_ext ((inn2_list x).trans (inn_list x).symm)
end Mine
end

section
-- RulesR
open PySem PySem.W PyProof.Rows PySem.Calls PySem.Spec PyProof.Rows.LCg
set_option Elab.async false
set_option maxRecDepth 100000
set_option linter.unusedVariables false
namespace Mine
section
variable {prog : Program} {w : World} {A : Around} {E : Value → Shared → Prop} {s : Shared} {h₀ : Heap} {L : Addr} {m : Str → Option Value} {env : Env} {tl : List (Addr × Obj)}
theorem store_cell {x : Str} {c : Addr} {o : Obj} {v₀ : Option Value} {v : Value} {Q : Unit → Shared → Prop} (hk : env.scope.kind = .function) (hl : env.kindOf x = some .cell) (hc : env.cells.lookup x = some c)
    (F : Fr h₀ L s.heap m) (N : News h₀ L s.heap ((c, o) :: tl)) (off : ∀ p ∈ tl, p.1 ≠ c) (hd : o.data = .cell v₀)
    (h : ∀ h' o', o'.data = .cell (some v) → Fr h₀ L h' m → News h₀ L h' ((c, o') :: tl) → Q () { s with heap := h' }) : wpAny (model prog w) A (storeName env x v) Q E s := by
  have z := N _ (.head _)
  refine wpAny_storeName_cell hk hl hc ⟨o, z.1, hd⟩ fun h' hc' hs => ?_
  obtain ⟨o', ho', hd'⟩ := hc'
  exact h h' o' hd' (F.change hs z.2.1 z.2.2) (news_same N hs off ho')
end
end Mine
end

section
-- RulesS
open PySem PySem.W PyProof.Rows PySem.Calls PySem.Spec PyProof.Rows.LCg
set_option Elab.async false
set_option maxRecDepth 100000
set_option linter.unusedVariables false
namespace Mine
section
variable {prog : Program} {w : World} {A : Around} {E : Value → Shared → Prop} {s : Shared} {h₀ : Heap} {L C : Addr} {m m₂ : Str → Option Value} {scope : Scope} {cl : List (Str × Addr)} {env : Env} {oC : Obj} {news : List (Addr × Obj)}
theorem elt_sign {c1 c2 D : Addr} {o1 o2 : Obj} {its : List Value} {nD k : Nat} {x : Int} {t tq : Tok} {sx xx kx : Str} {p1 p2 p3 p4 p5 p6 p7 p8 p9 p10 p11 : Pos} {k1 k2 k3 : Nat} {Q : Value → Shared → Prop} (hk : scope.kind = .function)
    (hs : (compEnvC scope cl C env).kindOf sx = some .cell) (hcs : cl.lookup sx = some c1) (hx : (compEnvC scope cl C env).kindOf xx = some .cell) (hcx : cl.lookup xx = some c2) (hkx : scope.names.lookup kx = some .local)
    (N : News h₀ L s.heap news) (m1 : (c1, o1) ∈ news) (d1 : o1.data = .cell (some (.ref D))) (m2 : (c2, o2) ∈ news) (d2 : o2.data = .cell (some (.int x t))) (hC : (C, oC) ∈ news) (hoC : NsObj oC m₂) (mk : m₂ kx = some (.int (0 + (k : Int)) tq)) (hk4 : k < 4)
    (mD : (D, listOf its.toArray nD) ∈ news) (hil : its.length = 4) (hits : ∀ i, i < 4 → ∃ z t, its.getD i .none = .str z t ∧ z.length ≤ 1)
    (h : ∀ z tz tk', z.length ≤ 1 → Q (.str z tz) { s with toks := tk' })
    (e1 : (sx == ("__debug__" : Str)) = false := by decide) (e2 : (xx == ("__debug__" : Str)) = false := by decide) (e3 : (kx == ("__debug__" : Str)) = false := by decide)
    (hsub : ∀ (i : Int) (u : Tok), subscripted (.BinOp (.BinOp (.BinOp (.Name xx p2) .FloorDiv (.Constant (.int 5) k1 p3) p4) .FloorDiv (.BinOp (.Constant (.int 4) k2 p5) .Pow (.Name kx p6) p7) p8) .Mod (.Constant (.int 4) k3 p9) p10) false (.ref D) (.int i u) = operate [.ref D, .int i u] (getItem (.ref D) (.int i u)) := by intro _ _; with_unfolding_all rfl) :
    wpAny (model prog w) A (eval (.Subscript (.Name sx p1) (.BinOp (.BinOp (.BinOp (.Name xx p2) .FloorDiv (.Constant (.int 5) k1 p3) p4) .FloorDiv (.BinOp (.Constant (.int 4) k2 p5) .Pow (.Name kx p6) p7) p8) .Mod (.Constant (.int 4) k3 p9) p10) p11) (compEnvC scope cl C env)) Q E s := by
  have hpy : ∀ a : Int, Builtin.divisionGoesByPylong a ((4 : Int) ^ (0 + (k : Int)).toNat) = false := fun a => by
    rcases (by lia : k = 0 ∨ k = 1 ∨ k = 2 ∨ k = 3) with rfl | rfl | rfl | rfl <;> exact PyProof.noPylong_of_log2 (by decide +kernel)
  have hpow : (4 : Int) ^ (0 + (k : Int)).toNat ≠ 0 := Int.ne_of_gt (Int.pow_pos (by decide))
  refine Subscript_ (cname_c hk hs hcs N m1 d1 ?_ e1)
  refine wpAny_BinOp (wpAny_BinOp (wpAny_BinOp (cname_c hk hx hcx N m2 d2 (wpAny_Constant_int (floordiv_int (by decide) ?_ (Or.inl (PyProof.noPylong_of_log2 (by decide +kernel))))) e2)))
  refine wpAny_BinOp (wpAny_Constant_int (cname_l hk hkx (by exact N) hC hoC mk (pow_int_small (by lia) (by lia) (by decide) ?_) e3))
  refine floordiv_int hpow ?_ (Or.inl (hpy _))
  refine wpAny_Constant_int (mod_int' (by decide) ?_)
  have hi0 : 0 ≤ ((x.fdiv 5).fdiv ((4 : Int) ^ (0 + (k : Int)).toNat)).fmod 4 := Int.fmod_nonneg_of_pos _ (by decide)
  have hi4 : ((x.fdiv 5).fdiv ((4 : Int) ^ (0 + (k : Int)).toNat)).fmod 4 < 4 := Int.fmod_lt_of_pos _ (by decide)
  generalize ((x.fdiv 5).fdiv ((4 : Int) ^ (0 + (k : Int)).toNat)).fmod 4 = ii at hi0 hi4 ⊢
  obtain ⟨z, tz, ez, hz⟩ := hits ii.toNat (by lia)
  refine at_sub (its := its) (n := nD) (by exact N) mD hi0 (by lia) (by lia) ?_ (hsub _ _)
  rw [ez]
  exact h z tz _ hz
end
end Mine
end

section
-- LawA
open PySem PySem.W PyProof.Rows PySem.Calls
set_option Elab.async false
set_option maxRecDepth 100000
set_option maxHeartbeats 1000000
set_option pp.deepTerms false
set_option pp.deepTerms.threshold 4
set_option pp.proofs false
namespace Mine
local macro_rules | `(tactic| walk_at "eval ListComp") => `(tactic| refine Mine.hold ?_)
local macro_rules | `(tactic| walk_at "pyIter ref") => `(tactic| refine Mine.hold ?_)
theorem text_c {w : World} {loose : List Str} {mean : ExcName → Option Value} {mg mb : Str → Option Value}
    {dp un : Nat} {gd : Option (List Code)} {cn : Str} {cs : Scope} {a : Addr} {ccd : Value} {cl : List (Str × Addr)} {outer : List Env} {A₀ : Around} {base h₀ : Heap} {L : Addr} {m : Str → Option Value} {s : Shared} {Q E : Value → Shared → Prop}
    {news : List (Addr × Obj)} {x : Int} {t : Tok}
    (B : Below A₀ base outer h₀) (F : Fr h₀ L s.heap m) (X : (hd1.heap_39 w.params).In h₀) (N : News h₀ L s.heap news) (T : Top hd1.view_39 loose mean mg mb h₀)
    (hk : cs.kind = .function) (hd : dp + 4 < recursionLimit) (hu : un + 30 < cLine)
    (ret : ∀ y t' h' tk', y.length ≤ 4 → Fr h₀ L h' m → News h₀ L h' news → Q (.str y t') { s with heap := h', toks := tk' }) :
    wpAny (model PySem.Challenge.rw_nb0235_01.row.prog w) (ktrTop dp un gd cn cs L a ccd cl outer) (call (.ref 108) [.int x t]) Q E s := by
  revert X; k_fill; intro X
  refine wpAny_call ?_
  refine' code_defC ?k1 ?k2 ?k3 ?k4 ?k5 ?kA ?kF ?kK ?k6 ?k7 ?k8 ?k9 ?kB ?kD ?_ ?c2 ?c3 ?c4; (case kA => exact rfl); (case kF => exact rfl); (case kK => assumption); (case k1 => k_asm); (case k2 => k_asm); (case k3 => k_asm); (case k4 => k_asm); (case k5 => k_asm); (case k6 => k_is); (case k7 => k_is); (case k8 => ktr_room); (case k9 => first | exact BindsTo.of_eq rfl | exact binds_K (by k_in) rfl (by k_is) rfl rfl rfl | fail "k_enter: no rule for these arguments"); (case kB => exact rfl); (case kD => decide +kernel); (case c2 => exact rfl); (case c3 => exact rfl); (case c4 => exact rfl); k_whole; intro g' L' h1 tk1 cells1 FG F1 N1 Y1 B1 X1 T1 l1; k_cells Y1; (try simp only [List.cons_append, List.nil_append] at N1); (try dsimp only); (try k_unmd); (try k_fold)
  rename_i oc1 oc2 d1 d2
  obtain ⟨m0, F1⟩ := fr_abs F1 [] (fun _ h => (nomatch h))
  dsimp only [putM] at F1
  replace d1 : oc1.data = .cell none := d1
  replace d2 : oc2.data = .cell (some (.int x t)) := d2
  k_steps
  rename_i lD h2 F2 N2 lt2
  obtain ⟨its, hits, hil, N2⟩ : ∃ its : List Value, (∀ i, i < 4 → ∃ z t, its.getD i .none = .str z t ∧ z.length ≤ 1) ∧ its.length = 4 ∧ News g' L' h2 ((lD, listOf its.toArray 0) :: (L' + 1 + 1, oc1) :: (L' + 1, oc2) :: news) := by
    refine ⟨_, fun i hi => ?_, rfl, N2⟩
    rcases (by lia : i = 0 ∨ i = 1 ∨ i = 2 ∨ i = 3) with rfl | rfl | rfl | rfl
    · exact ⟨_, _, rfl, by decide⟩
    · exact ⟨_, _, rfl, by decide⟩
    · exact ⟨_, _, rfl, by decide⟩
    · exact ⟨_, _, rfl, by first | exact Nat.le_refl _ | decide | simp [Str.length]⟩
  refine store_cell rfl rfl rfl (by exact F2) (by exact news_swap N2) (fun p hp => ?_) d1 ?_
  · rcases List.mem_cons.mp hp with rfl | hp
    · exact Nat.ne_of_gt lt2.1
    · rcases List.mem_cons.mp hp with rfl | hp
      · exact Nat.ne_of_lt (Nat.lt_succ_self _)
      · exact Nat.ne_of_lt (Nat.lt_succ_of_lt (Nat.lt_succ_of_lt (l1 p hp)))
  intro h3 oc3 d3 F3 N3
  k_steps
  unfold Hold
  refine lc_valueF (by exact F3) (cl := [(Str.ofString "x", L' + 1), (Str.ofString "signs", L' + 1 + 1)]) (by rfl) (by decide) rfl (by decide) ?_
  k_steps
  rename_i hRg F4 N4 up4
  unfold Hold
  have hx0 : 0 ≤ x.fmod 5 := Int.fmod_nonneg_of_pos x (by decide)
  have hx5 : x.fmod 5 < 5 := Int.fmod_lt_of_pos x (by decide)
  have hc : Builtin.Range.rangeSize 0 (x.fmod 5) 1 = ((x.fmod 5).toNat : Int) := by
    unfold Builtin.Range.rangeSize
    rw [if_pos (by decide)]
    split <;> ((try simp only [Int.ediv_one]); lia)
  refine wpAny_pyIter_range hRg (small_rng (by lia)) ?_
  rw [hc]
  refine range_lcat (x0 := 0) (cnt := (x.fmod 5).toNat) rfl (by exact F4.push _) (by exact News.push F4 N4 _) (fun p hp => Nat.ne_of_lt (Heap.lt_size (N4 p hp).1)) (by lia)
    (fun ys nb k => nb = _ ∧ ∃ zs, StrsAre ys zs ∧ zs.length = k ∧ ∀ z ∈ zs, z.length ≤ 1) ⟨rfl, [], .nil, rfl, fun _ h => (nomatch h)⟩ (fun ys nb k h => by obtain ⟨_, zs, h1, h2, _⟩ := h; rw [h1.length, h2]; exact Nat.le_refl _) ?_ ?_
  · rintro k tq hkc ys nb C oC D m9 h22 tk22 io ⟨rfl, zs, hst, hzl, hz1⟩ hoC F22 N23 hCD hIC hID off22
    refine asg1 rfl rfl F22 (by exact N23) hoC (off_c hCD hIC off22) ?_
    · intro h24 oC4 F24 N24 hoC4
      refine wpAny_tests_nil ?_
      refine cif_pos rfl ?_
      refine elt_sign (its := its) (nD := 0) (k := k) rfl rfl rfl rfl rfl rfl N24 (.tail _ (.tail _ (.tail _ (.head _)))) d3 (.tail _ (.tail _ (.tail _ (.tail _ (.tail _ (.head _)))))) d2 (.head _) hoC4 rfl (by lia) (.tail _ (.tail _ (.tail _ (.tail _ (.head _))))) hil hits ?_
      intro z tz tkz hz
      refine ⟨h24, _, oC4, _, _, rfl, hoC4, F24, N24, off22, rfl, zs ++ [z], kct_snoc hst, by simp [hzl], fun y hy => ?_⟩
      rcases List.mem_append.mp hy with h | h
      · exact hz1 y h
      · rw [List.mem_singleton.mp h]; exact hz
  · rintro ys nb ⟨rfl, zs, hst, hzl, hz1⟩ D25 h25 tk25 F25 N25 off25
    k_steps
    have hsum : (zs.map (·.length)).sum ≤ zs.length := by
      clear hst hzl
      induction zs with
      | nil => simp
      | cons z r ih =>
        have h1 := hz1 z (.head _)
        have h2 := ih fun y hy => hz1 y (.tail _ hy)
        simp only [List.map_cons, List.sum_cons, List.length_cons]; lia
    refine join_listW (ys := zs) (PySem.IsL.isList (n := ys.length) (by exact (N25 _ (.head _)).1)) (by simpa using hst) (by decide) (by lia) ?_
    intro tj kj
    k_steps
    rename_i kF kN _ _
    refine ret _ _ _ _ ?_ kF (fun p hp => kN p (.tail _ (.tail _ (.tail _ (.tail _ hp)))))
    show (Builtin.Str.glued (Str.ofString "") zs).length ≤ 4
    rw [size_glued]
    have e0 : (Str.ofString "").length = 0 := by decide
    rw [e0]
    lia
end Mine
end

section
-- PureG
open PySem PySem.W PyProof.Rows
set_option Elab.async false
set_option linter.unusedVariables false
namespace Mine
theorem countP_or {α : Type} {p q : α → Bool} : ∀ {l : List α}, (∀ y ∈ l, p y = true → q y = false) → l.countP (fun y => p y || q y) = l.countP p + l.countP q
  | [], _ => rfl
  | y :: l, h => by
    have ih := countP_or (l := l) fun z hz => h z (.tail _ hz)
    have hy := h y (.head _)
    rw [List.countP_cons, List.countP_cons, List.countP_cons, ih]
    cases a : p y <;> cases b : q y <;> simp_all <;> lia
theorem countP_idx {α : Type} (d : α) (p : α → Bool) : ∀ (l : List α), (List.range l.length).countP (fun i => p (l.getD i d)) = l.countP p
  | [] => rfl
  | x :: l => by
    have ih := countP_idx d p l
    rw [List.length_cons, List.range_succ_eq_map, List.countP_cons, List.countP_map, List.countP_cons]
    simp only [List.getD_cons_zero]
    congr 1
theorem countP_below {N k : Nat} (hk : k ≤ N) (p : Nat → Bool) : (List.range N).countP (fun i => p i && decide (i < k)) = (List.range k).countP p := by
  induction N with
  | zero => have : k = 0 := by lia
            subst this; rfl
  | succ N ih =>
    rw [List.range_succ, List.countP_append, List.countP_singleton]
    by_cases h : k = N + 1
    · subst h
      rw [List.range_succ, List.countP_append, List.countP_singleton]
      have e : (List.range N).countP (fun i => p i && decide (i < N + 1)) = (List.range N).countP p := List.countP_congr fun i hi => by
        have := List.mem_range.mp hi
        simp [show i < N + 1 by lia]
      rw [e]; simp
    · rw [ih (by lia)]
      simp [show ¬ N < k by lia]
theorem rank_eq {lt : Str → Str → Bool} (irr : ∀ a, lt a a = false) (tot : ∀ a b, lt a b = false → lt b a = false → a = b) (asy : ∀ a b, lt a b = true → lt b a = false) (e : Str) (ks : List Str) (k : Nat) (hk : k < ks.length) :
    rank (fun i j => lt (ks.getD i e) (ks.getD j e)) ks.length k = (ks.filter fun y => lt y (ks.getD k e)).length + (ks.take k).countP (fun y => decide (y = ks.getD k e)) := by
  unfold rank
  have h1 : (List.range ks.length).countP (fun y => befb (fun i j => lt (ks.getD i e) (ks.getD j e)) y k) =
      (List.range ks.length).countP (fun y => lt (ks.getD y e) (ks.getD k e) || (decide (ks.getD y e = ks.getD k e) && decide (y < k))) := by
    refine List.countP_congr fun y hy => ?_
    unfold befb; dsimp only
    generalize ks.getD y e = u
    generalize ks.getD k e = v
    cases a : lt u v with
    | true => simp
    | false =>
      cases b : lt v u with
      | true =>
        have : u ≠ v := fun q => by rw [q, irr] at b; cases b
        simp [this]
      | false => simp [tot _ _ a b]
  rw [h1, countP_or (fun y _ hy => by
    have : ks.getD y e ≠ ks.getD k e := fun q => by rw [q, irr] at hy; cases hy
    rw [decide_eq_false this, Bool.false_and])]
  rw [countP_idx e (fun z => lt z (ks.getD k e)), List.countP_eq_length_filter, countP_below (Nat.le_of_lt hk) (fun i => decide (ks.getD i e = ks.getD k e))]
  congr 1
  have h2 := countP_idx e (fun z => decide (z = ks.getD k e)) (ks.take k)
  rw [← h2, List.length_take, Nat.min_eq_left (Nat.le_of_lt hk)]
  refine List.countP_congr fun i hi => ?_
  have hi' := List.mem_range.mp hi
  have : (ks.take k).getD i e = ks.getD i e := by
    simp [List.getD, List.getElem?_take, hi']
  rw [this]
end Mine
end

section
-- RulesT
open PySem PySem.W PyProof.Rows PySem.Calls PySem.Spec PyProof.Rows.LCg
set_option Elab.async false
set_option maxRecDepth 100000
set_option linter.unusedVariables false
namespace Mine
section
variable {prog : Program} {w : World} {A : Around} {E : Value → Shared → Prop} {s : Shared} {h₀ : Heap} {L C I : Addr} {m m₂ : Str → Option Value} {scope : Scope} {cl : List (Str × Addr)} {env : Env} {oC : Obj} {news : List (Addr × Obj)} {K : Frag} {p : Program} {loose : List Str} {mg mb : Str → Option Value}
theorem cname_g {x : Str} {pos : Pos} {v : Value} {Q : Value → Shared → Prop} (hg : env.globals = mainGlobals) (hk : scope.kind = .function) (hx : (compEnvC scope cl C env).kindOf x = some .globalImplicit) (F : Fr h₀ L s.heap m) (X : K.In h₀) (T : TopRead p loose mg mb h₀) (e : nsIn K mainGlobals x = some (some v)) (h : Q v s)
    (hd : (x == ("__debug__" : Str)) = false := by decide) : wpAny (model prog w) A (eval (.Name x pos) (compEnvC scope cl C env)) Q E s :=
  Name_function_global (by exact hk) hx (loadGlobal_global (env := compEnvC scope cl C env) (by show Heap.Ns _ env.globals _; rw [hg]; exact T.g.keeps F.keep) (mg_of X T.g e) h) hd
theorem map_lcat {s₂ : Shared} {f x : Str} {pf px px' pc : Pos} {q l : Addr} {fo : Obj} {fd : FuncData} {vs : List Value} {nl : Nat} {o : Obj} {nb₀ : List (Addr × Obj)} {Kf : Value → Str} {Fin : Shared → List Value → List (Addr × Obj) → Prop} (hh : A.handled = none)
    (hg : env.globals = mainGlobals) (hk : scope.kind = .function) (hxl : scope.names.lookup x = some .local) (hf : ∀ C, (compEnvC scope cl C env).kindOf f = some .globalImplicit) (X : K.In h₀) (T : TopRead p loose mg mb h₀) (ef : nsIn K mainGlobals f = some (some (.ref q)))
    (hfn : h₀.get? q = some fo) (hfd : fo.data = .func fd) (F : Fr h₀ L s₂.heap m) (N : News h₀ L s₂.heap ((I, o) :: nb₀)) (ho : LIt o l 0) (offI : ∀ p ∈ nb₀, p.1 ≠ I) (hz : vs.length < 900) (hl : (l, listOf vs.toArray nl) ∈ nb₀)
    (key : KeyCall prog w A h₀ L m (.ref q) Kf vs) (fin : ∀ ys, KeysAre Kf vs ys → Fin s₂ ys nb₀)
    (d1 : (x == ("__debug__" : Str)) = false := by decide) (d2 : (f == ("__debug__" : Str)) = false := by decide) :
    LcAt prog w A h₀ L m env (.Name x px) [] (.Call (.Name f pf) [.Name x px'] [] pc) scope cl Fin (.ref I) s₂ := by
  refine list_lcat (its := vs) (nl := nl) (l := l) hh F N ho offI hz (fun ys nb k => nb = nb₀ ∧ ys.length = k ∧ KeysAre Kf (vs.take k) ys) ⟨rfl, rfl, trivial⟩ (fun ys nb k h => ⟨h.1 ▸ hl, Nat.le_of_eq h.2.1⟩) (.inl fun _ => rfl) ?_ ?_
  · rintro i v hi hv ys nb C oC D m9 h22 tk22 io ⟨rfl, hys, hst⟩ hoC F22 N23 hCD hIC hID off22
    refine asg1 hk hxl F22 (by exact N23) hoC (fun p hp => ?_) ?_
    · rcases List.mem_cons.mp hp with rfl | hp
      · exact hCD.symm
      · rcases List.mem_cons.mp hp with rfl | hp
        · exact hIC
        · exact (off22 p hp).1
    · intro h24 oC4 F24 N24 hoC4
      refine wpAny_tests_nil ?_
      refine cif_pos rfl ?_
      refine Call_ (cname_g hg hk (hf C) (by exact F24) X T ef ?_ d2)
      refine callWith_def hfd (args_cons (cname_l hk hxl (by exact N24) (.head _) hoC4 (by rw [if_pos rfl]) (args_nil ⟨F24.keep _ _ hfn, ?_⟩) d1))
      refine key v (List.mem_of_getElem? hv) _ _ _ _ (by exact F24) (by exact N24) fun t' h' tk' F' N' => ?_
      refine ⟨h', tk', oC4, _, _, rfl, hoC4, F', N', off22, rfl, by simp [hys], ?_⟩
      rw [List.take_add_one, hv]
      exact hst.snoc
  · rintro ys nb ⟨rfl, hys, hst⟩
    rw [List.take_length] at hst
    exact fin ys hst
end
end Mine
end

section
-- RulesU
open PySem PySem.W PyProof.Rows PySem.Calls PySem.Spec PyProof.Rows.LCg
set_option Elab.async false
set_option maxRecDepth 100000
set_option linter.unusedVariables false
namespace Mine
section
variable {prog : Program} {w : World} {A : Around} {E : Value → Shared → Prop} {s : Shared} {h₀ : Heap} {L C I : Addr} {m m₂ : Str → Option Value} {scope : Scope} {cl : List (Str × Addr)} {env : Env} {oC : Obj} {news : List (Addr × Obj)}
/-- the end of a turn of a for over a range -/
inductive UEnd (g : Heap) (L I : Addr) (o : Obj) (s : Shared) (J : Nat → (Str → Option Value) → List (Addr × Obj) → Prop) (j : Nat) (s₅ : Shared) : Prop
  | mk (h : Heap) (tk : Nat) (m' : Str → Option Value) (tl' : List (Addr × Obj)) (a1 : s₅ = { s with heap := h, toks := tk }) (a2 : Fr g L h m') (a3 : News g L h ((I, o) :: tl')) (a4 : ∀ p ∈ tl', p.1 ≠ I) (a5 : J j m' tl') : UEnd g L I o s J j s₅
inductive FuJ (x0 : Int) (cnt : Nat) (g : Heap) (L I : Addr) (s₀ : Shared) (J : Nat → (Str → Option Value) → List (Addr × Obj) → Prop) (n : Nat) (s' : Shared) : Prop
  | mk (j : Nat) (h : Heap) (tk : Nat) (m' : Str → Option Value) (tl' : List (Addr × Obj)) (a1 : n = cnt - j) (a2 : j ≤ cnt) (a3 : s' = { s₀ with heap := h, toks := tk }) (a4 : Fr g L h m') (a5 : News g L h ((I, rIt (x0 + j) ((cnt : Int) - j) 1) :: tl')) (a6 : ∀ p ∈ tl', p.1 ≠ I) (a7 : J j m' tl') : FuJ x0 cnt g L I s₀ J n s'
theorem for_up {target : Expr} {body : List Stmt} {Q : Flow → Shared → Prop} {g : Heap} {x0 : Int} {cnt : Nat} {tl : List (Addr × Obj)} {s₀ : Shared} {h0 : Heap} {tk0 : Nat} (hh : A.handled = none)
    (hs : s = { s₀ with heap := h0, toks := tk0 }) (F : Fr g L h0 m) (N : News g L h0 ((I, rIt x0 cnt 1) :: tl)) (off : ∀ p ∈ tl, p.1 ≠ I) (hlet : ∀ v, letOwnedTupleGo target (.ref I) v = pure ())
    (J : Nat → (Str → Option Value) → List (Addr × Obj) → Prop) (hJ0 : J 0 m tl)
    (turn : ∀ (j : Nat) m' tl' h tk o', j < cnt → Fr g L h m' → News g L h ((I, o') :: tl') → (∀ p ∈ tl', p.1 ≠ I) → J j m' tl' →
      wpAny (model prog w) A (assign target env (.int (x0 + j) tk)) (fun _ s₄ => wpAny (model prog w) A (execs body env) (WStep (UEnd g L I o' s₀ J (j + 1)) Q) E s₄) E { s₀ with heap := h, toks := tk + 1 })
    (fin : ∀ m' tl' h tk, Fr g L h m' → News g L h tl' → J cnt m' tl' → Q .next { s₀ with heap := h, toks := tk }) : ForAt prog w A env target body Q E (.ref I) s := by
  refine ⟨FuJ x0 cnt g L I s₀ J, cnt, ⟨0, h0, tk0, m, tl, rfl, Nat.zero_le _, hs, F, by simpa using N, off, hJ0⟩, hlet, ?_⟩
  rintro n _ ⟨j, h, tk, m', tl', rfl, hjc, rfl, F', N', off', hj⟩
  by_cases hlt : j < cnt
  · refine next_range (s := { s₀ with heap := h, toks := tk }) F' N' off' (by lia) fun h₁ F₁ N₁ => ?_
    refine wpAny_mono (turn j m' tl' h₁ tk _ hlt F₁ N₁ off' hj) (fun _ s₄ h₄ => wpAny_mono h₄ (fun f s₅ h₅ => ?_) fun _ _ e => e) fun _ _ e => e
    have conv : UEnd g L I (rIt (x0 + j + 1) ((cnt : Int) - j - 1) 1) s₀ J (j + 1) s₅ → ∃ n', n' < cnt - j ∧ FuJ x0 cnt g L I s₀ J n' s₅ := by
      rintro ⟨h, tk, m', tl', rfl, a1, a2, a3, a4⟩
      refine ⟨_, by lia, j + 1, h, tk, m', tl', rfl, hlt, rfl, a1, ?_, a3, a4⟩
      rw [show x0 + ((j + 1 : Nat) : Int) = x0 + j + 1 by lia, show (cnt : Int) - ((j + 1 : Nat) : Int) = (cnt : Int) - j - 1 by lia]
      exact a2
    cases f with
    | next => exact conv h₅
    | cont => exact conv h₅
    | brk => exact h₅
    | ret v => exact h₅
  · have hje : j = cnt := by lia
    subst hje
    exact next_range_end (s := { s₀ with heap := h, toks := tk }) hh F' N' off' (by lia) fun h₁ F₁ N₁ => fin m' tl' h₁ tk F₁ N₁ hj
theorem rsize {n : Nat} : Builtin.Range.rangeSize 0 (n : Int) 1 = (n : Int) := by
  unfold Builtin.Range.rangeSize
  rw [if_pos (by decide)]
  split <;> ((try simp only [Int.ediv_one]); lia)
theorem pyIter_rng {r : Addr} {n : Nat} {t u v : Tok} {Q : Value → Shared → Prop} (hr : IsRange s.heap r 0 (n : Int) 1 t u v) (hn : n < 50) (h : Q (.ref s.heap.objs.size) { s with heap := s.heap.push (rIt 0 (n : Int) 1) }) : wpAny (model prog w) A (pyIter (.ref r)) Q E s := by
  refine wpAny_pyIter_range hr (small_rng (by lia)) ?_
  rw [rsize]; exact h
theorem cmp_at {o y : Str} {to ty : Tok} {gt : Bool} {op : CmpOp} {ci ck D : Addr} {oi ok : Obj} {its : List Value} {nD k : Nat} {tk : Tok} {ox ix kx : Str} {p1 p2 p3 p4 p5 : Pos} {whole : Sem Value} {Q : Bool → Shared → Prop} (hop : op = if gt = true then .Gt else .Lt) (hk : scope.kind = .function)
    (hox : scope.names.lookup ox = some .local) (hix : (compEnvC scope cl C env).kindOf ix = some .cell) (hci : cl.lookup ix = some ci) (hkx : (compEnvC scope cl C env).kindOf kx = some .cell) (hck : cl.lookup kx = some ck)
    (N : News h₀ L s.heap news) (hC : (C, oC) ∈ news) (hoC : NsObj oC m₂) (mo : m₂ ox = some (.str o to)) (mi : (ci, oi) ∈ news) (di : oi.data = .cell (some (.ref D))) (mk : (ck, ok) ∈ news) (dk : ok.data = .cell (some (.int (k : Int) tk)))
    (mD : (D, listOf its.toArray nD) ∈ news) (hkl : k < its.length) (hz : its.length < 1000) (hy : its.getD k .none = .str y ty)
    (h : Q (if gt = true then slt y o else slt o y) s)
    (d1 : (ox == ("__debug__" : Str)) = false := by decide) (d2 : (ix == ("__debug__" : Str)) = false := by decide) (d3 : (kx == ("__debug__" : Str)) = false := by decide) :
    wpAny (model prog w) A (isTrue (.Compare (.Name ox p1) [op] [.Subscript (.Name ix p2) (.Name kx p3) p4] p5) (compEnvC scope cl C env) whole) Q E s := by
  refine wpAny_isTrue_Compare1 ?_ (by subst hop; cases gt <;> with_unfolding_all rfl)
  refine cname_l hk hox N hC hoC mo ?_ d1
  refine Subscript_ (cname_c hk hix hci N mi di (cname_c hk hkx hck N mk dk ?_ d3) d2)
  refine at_sub (its := its) (n := nD) N mD (by lia) (by lia) (by lia) ?_ (by with_unfolding_all rfl)
  rw [show ((k : Int)).toNat = k by lia, hy]
  subst hop
  cases gt with
  | true => exact rgt_str (x := o) (y := y) (wpAny_truthy_bool h)
  | false => exact rlt_str (x := o) (y := y) (wpAny_truthy_bool h)
theorem if_ahead {b : Bool} {o y : Str} {to ty : Tok} {ct ci ck D : Addr} {ot oi ok : Obj} {its : List Value} {nD k : Nat} {tk : Tok} {tx ox ix kx : Str} {p0 p1 p2 p3 p4 p5 q1 q2 q3 q4 q5 q6 : Pos} {whole : Sem Value} {Q : Bool → Shared → Prop} (hk : scope.kind = .function)
    (htx : (compEnvC scope cl C env).kindOf tx = some .cell) (hct : cl.lookup tx = some ct)
    (hox : scope.names.lookup ox = some .local) (hix : (compEnvC scope cl C env).kindOf ix = some .cell) (hci : cl.lookup ix = some ci) (hkx : (compEnvC scope cl C env).kindOf kx = some .cell) (hck : cl.lookup kx = some ck)
    (N : News h₀ L s.heap news) (hC : (C, oC) ∈ news) (hoC : NsObj oC m₂) (mo : m₂ ox = some (.str o to)) (mt : (ct, ot) ∈ news) (dt : ot.data = .cell (some (.bool b))) (mi : (ci, oi) ∈ news) (di : oi.data = .cell (some (.ref D))) (mk : (ck, ok) ∈ news) (dk : ok.data = .cell (some (.int (k : Int) tk)))
    (mD : (D, listOf its.toArray nD) ∈ news) (hkl : k < its.length) (hz : its.length < 1000) (hy : its.getD k .none = .str y ty)
    (h : Q (if b = true then slt y o else slt o y) s)
    (d0 : (tx == ("__debug__" : Str)) = false := by decide) (d1 : (ox == ("__debug__" : Str)) = false := by decide) (d2 : (ix == ("__debug__" : Str)) = false := by decide) (d3 : (kx == ("__debug__" : Str)) = false := by decide) :
    wpAny (model prog w) A (isTrue (.IfExp (.Name tx p0) (.Compare (.Name ox p1) [.Gt] [.Subscript (.Name ix p2) (.Name kx p3) p4] p5) (.Compare (.Name ox q1) [.Lt] [.Subscript (.Name ix q2) (.Name kx q3) q4] q5) q6) (compEnvC scope cl C env) whole) Q E s := by
  refine isTrue_IfExp (isTrue_plain (cname_c hk htx hct N mt dt (wpAny_truthy_bool ?_) d0))
  cases b with
  | true => exact cmp_at (gt := true) rfl hk hox hix hci hkx hck N hC hoC mo mi di mk dk mD hkl hz hy h d1 d2 d3
  | false => exact cmp_at (gt := false) rfl hk hox hix hci hkx hck N hC hoC mo mi di mk dk mD hkl hz hy h d1 d2 d3
end
theorem keys_strs {rs ys : List Value} {ts : List Str} (h : StrsAre rs ts) (hk : KeysAre Kv rs ys) : StrsAre ys (ts.map inn) := by
  induction h generalizing ys with
  | nil =>
    cases ys with
    | nil => exact .nil
    | cons _ _ => exact hk.elim
  | cons y t r ih =>
    cases ys with
    | nil => exact hk.elim
    | cons v ys =>
      obtain ⟨⟨t', rfl⟩, h2⟩ := hk
      exact .cons _ _ (ih h2)
theorem strs_take {rs : List Value} {ts : List Str} (k : Nat) (h : StrsAre rs ts) : StrsAre (rs.take k) (ts.take k) := by
  induction h generalizing k with
  | nil => rw [List.take_nil, List.take_nil]; exact .nil
  | cons y t r ih =>
    cases k with
    | zero => exact .nil
    | succ k => exact .cons y t (ih k)
theorem strs_getD {rs : List Value} {ts : List Str} {k : Nat} (e : Str) (h : StrsAre rs ts) (hk : k < ts.length) : ∃ t, rs.getD k .none = .str (ts.getD k e) t := by
  induction h generalizing k with
  | nil => exact absurd hk (Nat.not_lt_zero _)
  | cons y t h ih =>
    cases k with
    | zero => exact ⟨t, rfl⟩
    | succ k =>
      obtain ⟨t', e'⟩ := ih (Nat.lt_of_succ_lt_succ hk)
      exact ⟨t', by simpa using e'⟩
theorem count_eq (x : Str) : ∀ (l : List Str), PySem.Spec.countIn (.str x) (l.map PyData.str) = ((l.countP fun y => decide (y = x) : Nat) : Int)
  | [] => rfl
  | y :: l => by
    rw [List.map_cons, List.countP_cons]
    show (if PySem.Spec.same (.str y) (.str x) = true then (1 : Int) else 0) + PySem.Spec.countIn (.str x) (l.map PyData.str) = _
    rw [count_eq x l]
    have e : PySem.Spec.same (.str y) (.str x) = decide (y = x) := by
      show (y == x) = _
      by_cases h : y = x <;> simp [h]
    rw [e]
    by_cases h : y = x
    · simp [h]; lia
    · simp [h]
noncomputable abbrev ordOf (b : Bool) (ts : List Str) : Nat → Nat → Bool := if b = true then ltL (kyOf ts) else ltS (kyOf ts)
theorem swoO {b : Bool} {ts : List Str} : SWO (ordOf b ts) := by
  cases b with
  | true => exact swoL
  | false => exact swoS
theorem slt_asy {a b : Str} (h : slt a b = true) : slt b a = false := by
  cases q : slt b a with
  | false => rfl
  | true => have := slt_tr a b a h q; rw [slt_irr] at this; cases this
theorem getD_map_inn (ts : List Str) (i : Nat) : (ts.map inn).getD i (inn Str.empty) = kyOf ts i := by
  simp only [List.getD, List.getElem?_map, kyOf, txt]
  cases ts[i]? <;> rfl
theorem rank_at {b : Bool} {ts : List Str} {k : Nat} (hk : k < ts.length) :
    rank (ordOf b ts) ts.length k = ((ts.map inn).filter fun y => if b = true then slt (kyOf ts k) y else slt y (kyOf ts k)).length + ((ts.map inn).take k).countP (fun y => decide (y = kyOf ts k)) := by
  cases b with
  | true =>
    have h := rank_eq (lt := fun x y => slt y x) slt_irr (fun a b h1 h2 => slt_total a b h2 h1) (fun a b h => slt_asy h) (inn Str.empty) (ts.map inn) k (by simpa using hk)
    simp only [getD_map_inn, List.length_map] at h
    exact h
  | false =>
    have h := rank_eq (lt := slt) slt_irr slt_total (fun a b h => slt_asy h) (inn Str.empty) (ts.map inn) k (by simpa using hk)
    simp only [getD_map_inn, List.length_map] at h
    exact h
theorem rank_surj {lt : Nat → Nat → Bool} (W : SWO lt) {N i : Nat} (hi : i < N) : ∃ k, k < N ∧ rank lt N k = i := by
  apply Classical.byContradiction
  intro hn
  have hnd : ((List.range N).map (rank lt N)).Nodup := by
    rw [List.nodup_iff_pairwise_ne, List.pairwise_map, List.pairwise_iff_getElem]
    intro a b ha hb hab
    simp only [List.length_range] at ha hb
    simp only [List.getElem_range]
    intro e
    have := rank_inj W ha hb e
    lia
  have hsub : (List.range N).map (rank lt N) ⊆ (List.range N).erase i := by
    intro x hx
    obtain ⟨k, hk, rfl⟩ := List.mem_map.mp hx
    have hk' := List.mem_range.mp hk
    rw [List.Nodup.mem_erase_iff List.nodup_range]
    exact ⟨fun e => hn ⟨k, hk', e⟩, List.mem_range.mpr (rank_lt W hk')⟩
  have := List.Nodup.length_le_of_subset hnd hsub
  rw [List.length_map, List.length_range, List.length_erase_of_mem (List.mem_range.mpr hi), List.length_range] at this
  lia
noncomputable def strOf (v : Value) : Str := match v with | .str x _ => x | _ => Str.empty
theorem strs_of : ∀ {vs : List Value}, (∀ v ∈ vs, ∃ x t, v = .str x t) → StrsAre vs (vs.map strOf)
  | [], _ => .nil
  | v :: vs, h => by
    obtain ⟨x, t, rfl⟩ := h v (.head _)
    exact .cons x t (strs_of fun v hv => h v (.tail _ hv))
/-- the places filled so far -/
noncomputable def Placed (lt : Nat → Nat → Bool) (rs cur : List Value) (k : Nat) : Prop := cur.length = rs.length ∧ ∀ j, j < k → cur.getD (rank lt rs.length j) .none = rs.getD j .none
theorem Placed.step {lt : Nat → Nat → Bool} (W : SWO lt) {rs cur : List Value} {k : Nat} (h : Placed lt rs cur k) (hk : k < rs.length) : Placed lt rs (cur.set (rank lt rs.length k) (rs.getD k .none)) (k + 1) := by
  have hr := rank_lt W (N := rs.length) hk
  refine ⟨by simpa using h.1, fun j hj => ?_⟩
  rw [getD_set (by rw [h.1]; exact hr)]
  by_cases e : j = k
  · subst e; rw [if_pos rfl]
  · rw [if_neg (fun q => e (rank_inj W (by lia) hk q))]
    exact h.2 j (by lia)
theorem Placed.ranked {lt : Nat → Nat → Bool} (W : SWO lt) {rs cur : List Value} {ts : List Str} (hrs : StrsAre rs ts) (h : Placed lt rs cur rs.length) : StrsAre cur (cur.map strOf) ∧ Ranked lt ts (cur.map strOf) := by
  have hl := hrs.length
  refine ⟨strs_of fun v hv => ?_, by rw [List.length_map, h.1, hl], fun k hk => ?_⟩
  · obtain ⟨i, hi, rfl⟩ := List.getElem_of_mem hv
    obtain ⟨k, hk, e⟩ := rank_surj W (N := rs.length) (i := i) (by rw [← h.1]; exact hi)
    have := h.2 k hk
    rw [e] at this
    obtain ⟨t, et⟩ := strs_at hrs (k := k) (by lia)
    refine ⟨txt ts k, t, ?_⟩
    rw [← et, ← this]; simp [List.getD, hi]
  · have hr := rank_lt W (N := rs.length) (a := k) (by lia)
    have := h.2 k (by lia)
    obtain ⟨t, et⟩ := strs_at hrs (k := k) hk
    rw [et] at this
    rw [← hl, List.getElem?_map]
    have hg : cur[rank lt rs.length k]? = some (.str (txt ts k) t) := by
      rw [← this]; simp [List.getD, h.1, hr]
    rw [hg]
    show some (txt ts k) = _
    simp [txt, List.getD, hk]
end Mine
end

section
-- PureP
open PySem PySem.W PyProof.Rows
set_option Elab.async false
set_option linter.unusedVariables false
namespace Mine
theorem Best.ranked {lt : Nat → Nat → Bool} (W : SWO lt) {ts : List Str} {Y : List Nat} (h : Best lt ts.length Y) (hp : Y.Perm (List.range ts.length)) : Ranked lt ts (Y.map (txt ts)) := by
  refine ⟨by rw [List.length_map, hp.length_eq, List.length_range], fun k hk => ?_⟩
  obtain ⟨i, hi, e⟩ := List.getElem_of_mem (hp.mem_iff.mpr (List.mem_range.mpr hk))
  have := h.rank W i hi
  rw [e] at this
  rw [this, List.getElem?_map, List.getElem?_eq_getElem hi, e]
  simp [txt, List.getD, hk]
theorem pop_pure {lt : Value → Value → Bool} (V : VO lt) {its : List Value} {y : Value} (h : Hp lt 0 (its ++ [y])) :
    Hp lt 0 (if its = [] then [] else suF lt (its.set 0 y) 0) ∧ ((its ++ [y]).getD 0 .none :: (if its = [] then [] else suF lt (its.set 0 y) 0)).Perm (its ++ [y]) ∧ ∀ v ∈ (if its = [] then [] else suF lt (its.set 0 y) 0), lt v ((its ++ [y]).getD 0 .none) = false := by
  have hroot := h.root V
  cases its with
  | nil => exact ⟨fun i h0 hi _ => by simp at hi, by simp, fun v hv => by simp at hv⟩
  | cons x t =>
    have hne : x :: t ≠ [] := List.cons_ne_nil _ _
    rw [if_neg hne]
    have hpre : Hp lt 0 (x :: t) := fun i h0 hi hk => by
      have := h i h0 (by rw [List.length_append]; lia) hk
      simp only [List.getD_eq_getElem?_getD] at this ⊢
      rw [List.getElem?_append_left hi, List.getElem?_append_left (by lia)] at this
      exact this
    have hper : (suF lt ((x :: t).set 0 y) 0).Perm (y :: t) := (suF_perm (by simp)).trans (by simp)
    have hper2 : (x :: (suF lt ((x :: t).set 0 y) 0)).Perm ((x :: t) ++ [y]) := by
      refine (hper.cons x).trans ?_
      show (x :: y :: t).Perm (x :: (t ++ [y]))
      exact (List.perm_append_comm (l₁ := [y]) (l₂ := t)).cons x
    refine ⟨replace_hp V hpre (by simp), hper2, fun v hv => ?_⟩
    have hm : v ∈ (x :: t) ++ [y] := hper2.mem_iff.mp (.tail _ hv)
    obtain ⟨i, hi, e⟩ := List.getElem_of_mem hm
    have := hroot i hi
    rw [show ((x :: t) ++ [y]).getD i .none = v by simp only [List.getD_eq_getElem?_getD]; rw [List.getElem?_eq_getElem hi, e]; rfl] at this
    exact this
noncomputable abbrev idx (f : Value → It) (v : Value) : Nat := (f v).ord.toNat
structure HS (ts : List Str) (f : Value → It) (cur : List Value) (G : List (Addr × Obj)) : Prop where
  lst : ∀ v ∈ cur, LstIn G v (f v).key (f v).ord
  key : ∀ v ∈ cur, (f v).ord = (idx f v : Int) ∧ (f v).key = kyOf ts (idx f v)
  hp : Hp (fun x y => ilt (f x) (f y)) 0 cur
theorem LstIn.mono {tl tl' : List (Addr × Obj)} {v : Value} {k : Str} {i : Int} (h : LstIn tl v k i) (e : ∀ p ∈ tl, p ∈ tl') : LstIn tl' v k i := by
  obtain ⟨a, t1, t2, n, rfl, hm⟩ := h
  exact ⟨a, t1, t2, n, rfl, e _ hm⟩
theorem HS.nil {ts : List Str} {f : Value → It} : HS ts f [] [] := ⟨fun _ h => (nomatch h), fun _ h => (nomatch h), fun i h0 hi _ => by simp at hi⟩
theorem HS.old {ts : List Str} {f : Value → It} {cur : List Value} {G : List (Addr × Obj)} {α : Type} {F : Value → α} {a : Addr} {x : α} (h : HS ts f cur G) (ha : ∀ p ∈ G, p.1 ≠ a) : ∀ v ∈ cur, upd F a x v = F v := fun v hv => by
  obtain ⟨b, t1, t2, n, rfl, hm⟩ := h.lst v hv
  exact upd_ne (ha _ hm)
section
variable {ts : List Str} {f : Value → It} {cur : List Value} {G : List (Addr × Obj)} {a : Addr} {k n : Nat} {t1 t2 : Tok}
theorem HS.lst' (h : HS ts f cur G) (ha : ∀ p ∈ G, p.1 ≠ a) : ∀ v ∈ cur ++ [.ref a], LstIn ((a, listOf #[.str (kyOf ts k) t1, .int (k : Int) t2] n) :: G) v (upd f a ⟨kyOf ts k, k, Str.empty⟩ v).key (upd f a ⟨kyOf ts k, k, Str.empty⟩ v).ord := fun v hv => by
  rcases List.mem_append.mp hv with hv | hv
  · rw [h.old ha v hv]; exact (h.lst v hv).mono fun p hp => .tail _ hp
  · rw [List.mem_singleton.mp hv, upd_self]
    exact ⟨a, t1, t2, n, rfl, .head _⟩
theorem HS.push (h : HS ts f cur G) (ha : ∀ p ∈ G, p.1 ≠ a) :
    HS ts (upd f a ⟨kyOf ts k, k, Str.empty⟩) (sdF (fun x y => ilt (upd f a ⟨kyOf ts k, k, Str.empty⟩ x) (upd f a ⟨kyOf ts k, k, Str.empty⟩ y)) 0 (.ref a) (cur ++ [.ref a]) cur.length) ((a, listOf #[.str (kyOf ts k) t1, .int (k : Int) t2] n) :: G) ∧
    ((sdF (fun x y => ilt (upd f a ⟨kyOf ts k, k, Str.empty⟩ x) (upd f a ⟨kyOf ts k, k, Str.empty⟩ y)) 0 (.ref a) (cur ++ [.ref a]) cur.length).map (idx (upd f a ⟨kyOf ts k, k, Str.empty⟩))).Perm (cur.map (idx f) ++ [k]) := by
  have hold := h.old (F := f) (x := ⟨kyOf ts k, k, Str.empty⟩) ha
  have hper := push_perm (lt := fun x y => ilt (upd f a ⟨kyOf ts k, k, Str.empty⟩ x) (upd f a ⟨kyOf ts k, k, Str.empty⟩ y)) (cur := cur) (y := .ref a)
  refine ⟨⟨fun v hv => h.lst' ha v (hper.mem_iff.mp hv), fun v hv => ?_, ?_⟩, ?_⟩
  · rcases List.mem_append.mp (hper.mem_iff.mp hv) with hv | hv
    · have := h.key v hv
      simp only [idx, hold v hv] at this ⊢
      exact this
    · rw [List.mem_singleton.mp hv]
      simp only [idx, upd_self]
      exact ⟨by lia, by rw [show ((k : Int)).toNat = k by lia]⟩
  · refine push_hp vo_min (h.hp.congr fun x hx y hy => ?_)
    rw [hold x hx, hold y hy]
  · refine (hper.map _).trans ?_
    rw [List.map_append]
    have e : cur.map (idx (upd f a ⟨kyOf ts k, k, Str.empty⟩)) = cur.map (idx f) := List.map_congr_left fun v hv => by simp only [idx, hold v hv]
    rw [e]
    have e2 : [Value.ref a].map (idx (upd f a ⟨kyOf ts k, k, Str.empty⟩)) = [k] := by
      simp only [List.map_cons, List.map_nil, idx, upd_self]
      rw [show ((k : Int)).toNat = k by lia]
    rw [e2]
theorem HS.pop {its : List Value} {y : Value} (h : HS ts f (its ++ [y]) G) : HS ts f (if its = [] then [] else suF (fun x y => ilt (f x) (f y)) (its.set 0 y) 0) G ∧
    ((its ++ [y]).getD 0 .none :: (if its = [] then [] else suF (fun x y => ilt (f x) (f y)) (its.set 0 y) 0)).Perm (its ++ [y]) ∧ ∀ v ∈ (if its = [] then [] else suF (fun x y => ilt (f x) (f y)) (its.set 0 y) 0), ilt (f v) (f ((its ++ [y]).getD 0 .none)) = false := by
  obtain ⟨a1, a2, a3⟩ := pop_pure vo_min h.hp
  exact ⟨⟨fun v hv => h.lst v (a2.mem_iff.mp (.tail _ hv)), fun v hv => h.key v (a2.mem_iff.mp (.tail _ hv)), a1⟩, a2, a3⟩
end
structure OutInv (ts : List Str) (f : Value → It) (cur : List Value) (Y : List Nat) : Prop where
  perm : (Y ++ cur.map (idx f)).Perm (List.range ts.length)
  ord : Y.Pairwise (bef (ltS (kyOf ts)))
  top : ∀ x ∈ Y, ∀ v ∈ cur, bef (ltS (kyOf ts)) x (idx f v)
theorem OutInv.step {ts : List Str} {f : Value → It} {cur new : List Value} {Y : List Nat} {G : List (Addr × Obj)} {r : Value} (h : OutInv ts f cur Y) (hs : HS ts f cur G) (hp : (r :: new).Perm cur) (hl : ∀ v ∈ new, ilt (f v) (f r) = false) : OutInv ts f new (Y ++ [idx f r]) := by
  have hper : (Y ++ (r :: new).map (idx f)).Perm (List.range ts.length) := ((hp.map (idx f)).append_left Y).trans h.perm
  have hnd : (Y ++ (r :: new).map (idx f)).Nodup := hper.nodup_iff.mpr List.nodup_range
  have hnd2 := (List.nodup_append.mp hnd).2.1
  rw [List.map_cons, List.nodup_cons] at hnd2
  have hr : r ∈ cur := hp.mem_iff.mp (.head _)
  refine ⟨?_, ?_, fun x hx v hv => ?_⟩
  · rw [List.append_assoc]; exact hper
  · rw [List.pairwise_append]
    refine ⟨h.ord, List.pairwise_singleton _ _, fun x hx z hz => ?_⟩
    rw [List.mem_singleton.mp hz]
    exact h.top x hx r hr
  · have hvc : v ∈ cur := hp.mem_iff.mp (.tail _ hv)
    rcases List.mem_append.mp hx with hx | hx
    · exact h.top x hx v hvc
    · rw [List.mem_singleton.mp hx]
      have hne : idx f r ≠ idx f v := fun e => hnd2.1 (e ▸ List.mem_map_of_mem hv)
      have hn := hl v hv
      obtain ⟨or, kr⟩ := hs.key r hr
      obtain ⟨ov, kv⟩ := hs.key v hvc
      have hn' : ¬ (slt (f v).key (f r).key = true ∨ ((f v).key = (f r).key ∧ (f v).ord < (f r).ord)) := fun q => by
        have := ilt_iff.mpr q; rw [hn] at this; cases this
      rw [not_or] at hn'
      unfold bef ltS
      rw [← kr, ← kv]
      have h1 : slt (f v).key (f r).key = false := by
        cases q : slt (f v).key (f r).key with
        | false => rfl
        | true => exact absurd q hn'.1
      cases q : slt (f r).key (f v).key with
      | true => exact .inl rfl
      | false =>
        refine .inr ⟨h1, ?_⟩
        have := slt_total _ _ h1 q
        have : ¬ (f v).ord < (f r).ord := fun z => hn'.2 ⟨this, z⟩
        lia
theorem OutInv.fin {ts : List Str} {f : Value → It} {Y : List Nat} (h : OutInv ts f [] Y) : Ranked (ltS (kyOf ts)) ts (Y.map (txt ts)) := by
  have hp : Y.Perm (List.range ts.length) := by simpa using h.perm
  exact (Best.full swoS h.ord hp).ranked swoS hp
end Mine
end

section
-- RulesV
open PySem PySem.W PyProof.Rows PySem.Calls PySem.Spec PySem.SeqAt
set_option Elab.async false
set_option maxRecDepth 100000
set_option linter.unusedVariables false
namespace Mine
theorem strs_at2 {xs : List Value} {zs : List Str} {k : Nat} (h : StrsAre xs zs) (hk : k < xs.length) : ∃ t, xs[k] = .str (txt zs k) t := by
  obtain ⟨t, e⟩ := strs_at h (k := k) (by rw [← h.length]; exact hk)
  exact ⟨t, by rw [← e]; simp [List.getD, hk]⟩
section
variable {prog : Program} {w : World} {A : Around} {E : Value → Shared → Prop} {s : Shared} {a b : Addr} {xs ys : List Value} {zs : List Str} {Q : Value → Shared → Prop}
theorem same_items (hi : StrsAre xs zs) (hj : StrsAre ys zs) : ∀ j (h1 : j < xs.toArray.size) (h2 : j < ys.toArray.size), EqAt A.in1 s xs.toArray[j] ys.toArray[j] ((fun _ => true) j) := fun j h1 h2 => by
  obtain ⟨t, e⟩ := strs_at2 hi (k := j) (by simpa using h1)
  obtain ⟨u, e'⟩ := strs_at2 hj (k := j) (by simpa using h2)
  have q := EqAt.str_str (A := A.in1) (s := s) (txt zs j) t (txt zs j) u
  rw [beq_self_eq_true] at q
  simpa [e, e'] using q
theorem eq_same (ha : s.heap.IsList a xs.toArray) (hb : s.heap.IsList b ys.toArray) (hi : StrsAre xs zs) (hj : StrsAre ys zs) (hu : A.units < cLine) (h : Q (.bool true) s) : wpAny (model prog w) A (compareOp .Eq (.ref a) (.ref b)) Q E s := by
  refine eq_listAt (e := fun _ => true) ha hb (by simp [hi.length, hj.length]) hu (same_items hi hj) ?_
  have : (List.range xs.toArray.size).all (fun _ => true) = true := by simp
  rw [this]; exact h
theorem ne_same (ha : s.heap.IsList a xs.toArray) (hb : s.heap.IsList b ys.toArray) (hi : StrsAre xs zs) (hj : StrsAre ys zs) (hu : A.units < cLine) (h : Q (.bool false) s) : wpAny (model prog w) A (compareOp .NotEq (.ref a) (.ref b)) Q E s := by
  refine RcNeAt.lists (e := fun _ => true) ha hb (by simp [hi.length, hj.length]) hu (same_items hi hj) prog w E Q ?_
  have : (!(List.range xs.toArray.size).all (fun _ => true)) = false := by simp
  rw [this]; exact h
end
theorem fr_unturn {h₀ h₀' h : Heap} {L : Addr} {m : Str → Option Value} (T : KtsTurn [] h₀ h₀') (F : Fr h₀' L h m) : Fr h₀ L h m :=
  ⟨F.ns, fun b o e => F.keep b o (T.other b o e (fun q => nomatch q)), by rw [← T.size]; exact F.above⟩
theorem news_unturn {h₀ h₀' h : Heap} {L : Addr} {news : List (Addr × Obj)} (T : KtsTurn [] h₀ h₀') (N : News h₀' L h news) : News h₀ L h news := fun p hp => ⟨(N p hp).1, (N p hp).2.1, by
  cases q : h₀.get? p.1 with
  | none => rfl
  | some o => have := T.other _ _ q (fun q => nomatch q); rw [(N p hp).2.2] at this; cases this⟩
theorem best_small {ts ls : List Str} {Y : List Nat} {n : Int} (h : Best (ltS (kyOf ts)) ts.length Y) (hy : Y.length = min n.toNat ts.length) (R : Ranked (ltS (kyOf ts)) ts ls) : Y.map (txt ts) = ls.take (max n 0).toNat := by
  have := Best.take_eq (d := Str.empty) swoS h R
  rw [show Y.map (txt ts) = Y.map (fun i => ts.getD i Str.empty) from rfl, this, hy]
  have hl := R.1
  by_cases hc : n.toNat ≤ ts.length
  · congr 1; lia
  · rw [List.take_of_length_le (by lia), List.take_of_length_le (by lia)]
theorem best_large {ts ls : List Str} {Y : List Nat} {n : Int} (h : Best (ltL (kyOf ts)) ts.length Y) (hy : Y.length = min n.toNat ts.length) (R : Ranked (ltL (kyOf ts)) ts ls) : Y.map (txt ts) = ls.take (max n 0).toNat := by
  have := Best.take_eq (d := Str.empty) swoL h R
  rw [show Y.map (txt ts) = Y.map (fun i => ts.getD i Str.empty) from rfl, this, hy]
  have hl := R.1
  by_cases hc : n.toNat ≤ ts.length
  · congr 1; lia
  · rw [List.take_of_length_le (by lia), List.take_of_length_le (by lia)]
theorem pick_upto {vs : List Value} {x : Int} (h0 : 0 ≤ x) : kms_pick vs none (some x) = vs.take x.toNat := by
  simp only [kms_pick, kms_lo, kms_hi, List.drop_zero]
  rw [if_neg (by lia), Nat.sub_zero]
  by_cases hc : x.toNat ≤ vs.length
  · congr 1; lia
  · rw [List.take_of_length_le (by lia), List.take_of_length_le (by lia)]
end Mine
end

section
-- LawB, LawC, LawD, LawE
open PySem PySem.W PyProof.Rows PySem.Calls
set_option Elab.async false
set_option maxRecDepth 100000
set_option maxHeartbeats 4000000
set_option pp.deepTerms false
set_option pp.deepTerms.threshold 4
set_option pp.proofs false
namespace Mine
local macro_rules | `(tactic| walk_at "eval ListComp") => `(tactic| refine Mine.hold ?_)
local macro_rules | `(tactic| walk_at "exec Assign cons ListComp") => `(tactic| refine Mine.hold ?_)
local macro_rules | `(tactic| walk_at "call ref") => `(tactic| refine Mine.hold ?_)
local macro_rules | `(tactic| walk_at "exec For") => `(tactic| refine Mine.hold ?_)
local macro_rules | `(tactic| walk_at "pyIter ref") => `(tactic| refine Mine.hold ?_)
local macro_rules | `(tactic| walk_at "binaryOp Mult ref int") => `(tactic| refine Mine.hold ?_)
local macro_rules | `(tactic| walk_at "subscriptTail") => `(tactic| refine Mine.hold ?_)
local macro_rules | `(tactic| walk_at "call builtin:list.count") => `(tactic| refine Mine.hold ?_)
local macro_rules | `(tactic| walk_at "setItem ref int") => `(tactic| refine Mine.hold ?_)
local macro_rules | `(tactic| walk_at "WStep") => `(tactic| (dsimp only [WStep]))
local macro_rules | `(tactic| walk_at "call builtin:len") => `(tactic| refine Mine.hold ?_)
theorem keycall2 {w : World} {loose : List Str} {mean : ExcName → Option Value} {mg mb : Str → Option Value}
    {dp un : Nat} {gd : Option (List Code)} {cn : Str} {cs : Scope} {a : Addr} {ccd : Value} {cl : List (Str × Addr)} {outer : List Env} {A₀ : Around} {base h₀ : Heap} {L : Addr} {m : Str → Option Value} {rs : List Value} {ts : List Str}
    (B : Below A₀ base outer h₀) (X : (hd1.heap_39 w.params).In h₀) (T : Top hd1.view_39 loose mean mg mb h₀)
    (hk : cs.kind = .function) (hd : dp + 1 < recursionLimit) (hu : un + 8 < cLine) (hrs : StrsAre rs ts) (hts : ∀ x ∈ ts, x.length < 1000) :
    KeyCall PySem.Challenge.rw_nb0235_01.row.prog w (ktrTop dp un gd cn cs L a ccd cl outer) h₀ L m (.ref 115) Kv rs := by
  intro v hv s news Q E F N k
  obtain ⟨x, t, rfl, hx⟩ : ∃ x t, v = .str x t ∧ x ∈ ts := by
    clear B X T
    induction hrs with
    | nil => cases hv
    | cons y t h ih =>
      rcases List.mem_cons.mp hv with rfl | hv
      · exact ⟨_, _, rfl, .head _⟩
      · obtain ⟨x, t, e, hx⟩ := ih (fun x hx => hts x (.tail _ hx)) hv
        exact ⟨x, t, e, .tail _ hx⟩
  refine inner_c B F X N T hk hd hu (hts x hx) fun t' h' tk' F' N' => ?_
  rw [inn_eq]
  exact k t' h' tk' F' N'
theorem news_back3 {h₀ h : Heap} {L : Addr} {x y z : Addr × Obj} {tl : List (Addr × Obj)} (N : News h₀ L h (x :: y :: z :: tl)) : News h₀ L h (z :: x :: y :: tl) :=
  news_sub N fun p hp => by simp only [List.mem_cons] at hp ⊢; rcases hp with h | h | h | h <;> simp [h]
inductive OrJ (b : Bool) (ts : List Str) (rs : List Value) (lO c R : Addr) (rest : List (Addr × Obj)) (j : Nat) (m' : Str → Option Value) (tl' : List (Addr × Obj)) : Prop
  | mk (cur : List Value) (ock : Obj) (nO : Nat) (v : Option Value) (a1 : tl' = (lO, listOf cur.toArray nO) :: (c, ock) :: rest) (a2 : ock.data = .cell v) (a3 : Placed (ordOf b ts) rs cur j) (m1 : m' (Str.ofString "row") = some (.ref R)) (m2 : m' (Str.ofString "order") = some (.ref lO)) : OrJ b ts rs lO c R rest j m' tl'
theorem order_c {w : World} {loose : List Str} {mean : ExcName → Option Value} {mg mb : Str → Option Value}
    {dp un : Nat} {gd : Option (List Code)} {cn : Str} {cs : Scope} {a : Addr} {ccd : Value} {cl : List (Str × Addr)} {outer : List Env} {A₀ : Around} {base h₀ : Heap} {L : Addr} {m : Str → Option Value} {s : Shared} {Q E : Value → Shared → Prop}
    {news : List (Addr × Obj)} {R : Addr} {nR : Nat} {rs : List Value} {ts : List Str} {b : Bool}
    (B : Below A₀ base outer h₀) (F : Fr h₀ L s.heap m) (X : (hd1.heap_39 w.params).In h₀) (N : News h₀ L s.heap news) (T : Top hd1.view_39 loose mean mg mb h₀)
    (hk : cs.kind = .function) (hd : dp + 4 < recursionLimit) (hu : un + 30 < cLine) (hR : (R, listOf rs.toArray nR) ∈ news) (hrs : StrsAre rs ts) (hz : rs.length < 50) (hts : ∀ x ∈ ts, x.length < 1000)
    (ret : ∀ D n' h' tk' out ls, Fr h₀ L h' m → News h₀ L h' ((D, listOf out n') :: news) → (∀ p ∈ news, p.1 ≠ D) → StrsAre out.toList ls → Ranked (if b = true then ltL (kyOf ts) else ltS (kyOf ts)) ts ls → Q (.ref D) { s with heap := h', toks := tk' }) :
    wpAny (model PySem.Challenge.rw_nb0235_01.row.prog w) (ktrTop dp un gd cn cs L a ccd cl outer) (call (.ref 120) [.ref R, .bool b]) Q E s := by
  revert X; k_fill; intro X
  refine wpAny_call ?_
  refine' code_defC ?k1 ?k2 ?k3 ?k4 ?k5 ?kA ?kF ?kK ?k6 ?k7 ?k8 ?k9 ?kB ?kD ?_ ?c2 ?c3 ?c4; (case kA => exact rfl); (case kF => exact rfl); (case kK => assumption); (case k1 => k_asm); (case k2 => k_asm); (case k3 => k_asm); (case k4 => k_asm); (case k5 => k_asm); (case k6 => k_is); (case k7 => k_is); (case k8 => ktr_room); (case k9 => first | exact BindsTo.of_eq rfl | exact binds_K (by k_in) rfl (by k_is) rfl rfl rfl | fail "k_enter: no rule for these arguments"); (case kB => exact rfl); (case kD => decide +kernel); (case c2 => exact rfl); (case c3 => exact rfl); (case c4 => exact rfl); k_whole; intro g' L' h1 tk1 cells1 FG F1 N1 Y1 B1 X1 T1 l1; k_cells Y1; (try simp only [List.cons_append, List.nil_append] at N1); (try dsimp only); (try k_unmd); (try k_fold)
  rename_i oc1 oc2 oc3 d1 d2 d3
  obtain ⟨m0, F1⟩ := fr_abs F1 [(Str.ofString "row", .ref R)] (List.forall_mem_cons.mpr ⟨rfl, fun _ h => (nomatch h)⟩)
  dsimp only [putM] at F1
  replace d1 : oc1.data = .cell none := d1
  replace d2 : oc2.data = .cell none := d2
  replace d3 : oc3.data = .cell (some (.bool b)) := d3
  have hfo_e : ∃ fo fd, g'.get? 115 = some fo ∧ fo.data = .func fd := ⟨_, _, X1 115 _ (by k_is), rfl⟩
  have hfo := hfo_e.choose_spec.choose_spec.1
  have hfd := hfo_e.choose_spec.choose_spec.2
  have hRN : (R, listOf rs.toArray nR) ∈ (L' + 1 + 1 + 1, oc1) :: (L' + 1 + 1, oc2) :: (L' + 1, oc3) :: news := .tail _ (.tail _ (.tail _ hR))
  k_steps
  unfold Hold
  refine lc_valueF (by exact F1) (cl := []) (by rfl) (by decide) rfl (by decide) ?_
  k_steps
  unfold Hold
  refine wpAny_pyIter_list (PySem.IsL.isList (n := nR) (by exact (N1 _ hRN).1)) ?_
  refine map_lcat (q := 115) (l := R) (vs := rs) (nl := nR) rfl rfl rfl rfl (fun _ => rfl) X1 (topRead_of T1) (by k_is) hfo hfd (by exact F1.push _) (by exact News.push F1 N1 _) ⟨rfl, rfl⟩ (fun p hp => Nat.ne_of_lt (Heap.lt_size (N1 p hp).1)) (by lia) hRN
    (keycall2 B1 X1 T1 rfl (lim (b := 2) hd (by decide)) (lim (b := 11) hu (by decide)) hrs hts) ?_
  intro ys hys DI hI tkI FI NI offI
  k_steps
  rename_i lN hN FN NN ltN
  unfold Hold
  refine at_len (by exact NN) (.tail _ (.tail _ (.tail _ (.tail _ (.tail _ hR))))) (by lia) ?_
  k_steps
  unfold Hold
  refine KMa.mul (vs := [.none]) (ws := List.replicate rs.length .none) (by exact FN) (by exact NN) (PySem.IsL.isList (n := 0) (by exact (NN _ (.head _)).1)) (by lia) (by lia) (by simp; lia) (by simp) ?_
  intro lO hO FO NO ltO
  k_steps
  rename_i DT h3 lt3 h4 F4 N4
  have N5 : News g' L' h4 ((L' + 1 + 1, oc2) :: (lO, listOf (List.replicate rs.length Value.none).toArray 0) :: (DI, listOf ys.toArray ys.length) :: (L' + 1 + 1 + 1, oc1) :: (L' + 1, oc3) :: news) :=
    nc (N4 _ (.tail _ (.tail _ (.tail _ (.tail _ (.tail _ (.head _))))))) (nc (N4 _ (.tail _ (.head _))) (nc (N4 _ (.tail _ (.tail _ (.tail _ (.head _))))) (nc (N4 _ (.tail _ (.tail _ (.tail _ (.tail _ (.head _)))))) (nc (N4 _ (.tail _ (.tail _ (.tail _ (.tail _ (.tail _ (.tail _ (.head _)))))))) fun p hp => N4 p (.tail _ (.tail _ (.tail _ (.tail _ (.tail _ (.tail _ (.tail _ hp)))))))))))
  have lO1 : L' + 1 + 1 + 1 < lO := ltO (L' + 1 + 1 + 1, oc1) (.tail _ (.tail _ (.head _)))
  have lO2 : L' + 1 + 1 < lO := ltO (L' + 1 + 1, oc2) (.tail _ (.tail _ (.tail _ (.head _))))
  have lO3 : L' + 1 < lO := ltO (L' + 1, oc3) (.tail _ (.tail _ (.tail _ (.tail _ (.head _)))))
  have lO4 : DI < lO := ltO (DI, listOf ys.toArray ys.length) (.tail _ (.head _))
  have lO5 : ∀ p ∈ news, p.1 < lO := fun p hp => ltO p (.tail _ (.tail _ (.tail _ (.tail _ (.tail _ hp)))))
  have lI1 : L' + 1 + 1 + 1 ≠ DI := offI (L' + 1 + 1 + 1, oc1) (.head _)
  have lI2 : L' + 1 + 1 ≠ DI := offI (L' + 1 + 1, oc2) (.tail _ (.head _))
  have s12 : L' + 1 + 1 + 1 ≠ L' + 1 + 1 := Nat.succ_ne_self _
  have s23 : L' + 1 ≠ L' + 1 + 1 := (Nat.succ_ne_self _).symm
  have s13 : L' + 1 ≠ L' + 1 + 1 + 1 := Nat.ne_of_lt (Nat.lt_succ_of_lt (Nat.lt_succ_self _))
  refine store_cell rfl rfl rfl (by exact F4) (by exact N5) (oc (Nat.ne_of_gt lO2) (oc lI2.symm (oc s12 (oc s23 fun p hp => Nat.ne_of_lt (Nat.lt_succ_of_lt (Nat.lt_succ_of_lt (l1 p hp))))))) d2 ?_
  intro h5 oc4 d4 F5 N6
  k_steps
  rename_i h6 F6 N7
  have offK : ∀ p ∈ (DI, listOf ys.toArray ys.length) :: (L' + 1 + 1, oc4) :: (L' + 1, oc3) :: news, p.1 ≠ L' + 1 + 1 + 1 := oc lI1.symm (oc s12.symm (oc s13 fun p hp => Nat.ne_of_lt (Nat.lt_succ_of_lt (Nat.lt_succ_of_lt (Nat.lt_succ_of_lt (l1 p hp))))))
  have offO : ∀ p ∈ (DI, listOf ys.toArray ys.length) :: (L' + 1 + 1, oc4) :: (L' + 1, oc3) :: news, p.1 ≠ lO := oc (Nat.ne_of_lt lO4) (oc (Nat.ne_of_lt lO2) (oc (Nat.ne_of_lt lO3) fun p hp => Nat.ne_of_lt (lO5 p hp)))
  have hRr : (R, listOf rs.toArray nR) ∈ (DI, listOf ys.toArray ys.length) :: (L' + 1 + 1, oc4) :: (L' + 1, oc3) :: news := .tail _ (.tail _ (.tail _ hR))
  have hys' := keys_strs hrs hys
  have hyl := hys.length
  have hrl := hrs.length
  generalize hrest : (DI, listOf ys.toArray ys.length) :: (L' + 1 + 1, oc4) :: (L' + 1, oc3) :: news = rest at offK offO hRr
  have N8 : News g' L' h6 ((lO, listOf (List.replicate rs.length Value.none).toArray 0) :: (L' + 1 + 1 + 1, oc1) :: rest) :=
    hrest ▸ nc (N7 _ (.tail _ (.head _))) (nc (N7 _ (.tail _ (.tail _ (.tail _ (.head _))))) (nc (N7 _ (.tail _ (.tail _ (.head _)))) (nc (N7 _ (.head _)) (nc (N7 _ (.tail _ (.tail _ (.tail _ (.tail _ (.head _)))))) fun p hp => N7 p (.tail _ (.tail _ (.tail _ (.tail _ (.tail _ hp)))))))))
  clear N7 ltO lt3 ltN
  unfold Hold
  k_dflt (refine for_c ?_)
  k_steps
  unfold Hold
  refine at_len (by exact N8) (.tail _ (.tail _ hRr)) (by lia) ?_
  k_steps
  rename_i h9 _ _ _ _ hRg F9 N9 up9
  unfold Hold
  refine pyIter_rng hRg hz ?_
  refine for_up (s₀ := s) (x0 := 0) (cnt := rs.length) rfl rfl (by exact F9.push _) (by exact News.push F9 N9 _) (fun p hp => Nat.ne_of_lt (Heap.lt_size (N9 p hp).1)) (fun _ => rfl)
    (OrJ b ts rs lO (L' + 1 + 1 + 1) R rest)
    ⟨_, oc1, _, none, rfl, d1, ⟨by simp, fun j hj => absurd hj (Nat.not_lt_zero _)⟩, rfl, rfl⟩ ?_ ?_
  · rintro j m' tl' h10 tk10 o10 hj F10 N10 off10 ⟨cur, ock, nO, v, rfl, dk, hP, m1, m2⟩
    replace F10 := puts F10 [(Str.ofString "row", .ref R), (Str.ofString "order", .ref lO)] (pm m1 (pm m2 pn))
    dsimp only [putM] at F10
    clear F9 N9
    have mDI : (DI, listOf ys.toArray ys.length) ∈ rest := hrest ▸ .head _
    have m4 : (L' + 1 + 1, oc4) ∈ rest := hrest ▸ .tail _ (.head _)
    have m3 : (L' + 1, oc3) ∈ rest := hrest ▸ .tail _ (.tail _ (.head _))
    have hjt : j < ts.length := by lia
    obtain ⟨tj, ej⟩ := strs_getD (inn Str.empty) hys' (k := j) (by simpa using hjt)
    rw [getD_map_inn] at ej
    k_steps
    refine store_cell rfl rfl rfl (by exact F10) (by exact p_back3 N10) (oc (off10 (L' + 1 + 1 + 1, ock) (.tail _ (.head _))).symm (oc (Nat.ne_of_gt lO1) offK)) dk ?_
    intro h11 ock' dk' F11 N11
    rw [Int.zero_add] at dk'
    replace N11 := N11
    have N12 := N11
    rw [← hrest] at N12
    k_steps
    unfold Hold
    refine lc_assignF (by exact F11) (cl := [(Str.ofString "turned", L' + 1), (Str.ofString "k", L' + 1 + 1 + 1), (Str.ofString "inner", L' + 1 + 1)]) rfl (by rfl) (by rfl) (by decide) rfl (by decide) rfl rfl ?_
    k_steps
    unfold Hold
    refine wpAny_pyIter_list (PySem.IsL.isList (n := ys.length) (by exact (N11 _ (.tail _ (.tail _ (.tail _ mDI)))).1)) ?_
    refine list_lcat (its := ys) (nl := ys.length) (l := DI) rfl (by exact F11.push _) (by exact News.push F11 N11 _) ⟨rfl, rfl⟩ (fun p hp => Nat.ne_of_lt (Heap.lt_size (N11 p hp).1)) (by lia)
      (fun zs nb i => nb = _ ∧ zs.length ≤ i ∧ StrsAre zs (((ts.map inn).take i).filter fun y => if b = true then slt (kyOf ts j) y else slt y (kyOf ts j))) ⟨rfl, Nat.le_refl _, .nil⟩ (fun zs nb k h => ⟨h.1 ▸ .tail _ (.tail _ (.tail _ mDI)), h.2.1⟩) (.inl fun _ => rfl) ?_ ?_
    · rintro i v hi hv zs nb C oC D m9 h22 tk22 io ⟨rfl, hzs, hst⟩ hoC F22 N23 hCD hIC hID off22
      have hit : i < ts.length := by lia
      obtain ⟨to, eo⟩ : ∃ to, v = .str (kyOf ts i) to := by
        obtain ⟨to, eo⟩ := strs_getD (inn Str.empty) hys' (k := i) (by simpa using hit)
        rw [getD_map_inn] at eo
        exact ⟨to, by rw [← eo]; simp [List.getD, hv]⟩
      subst eo
      have etk : (ts.map inn).take (i + 1) = (ts.map inn).take i ++ [kyOf ts i] := by
        rw [List.take_add_one]
        congr 1
        simp [hit, kyOf, txt, List.getD]
      refine asg1 rfl rfl F22 (by exact N23) hoC (off_c hCD hIC off22) ?_
      · intro h24 oC4 F24 N24 hoC4
        refine wpAny_tests_one (if_ahead (its := ys) (nD := ys.length) (k := j) (y := kyOf ts j) (D := DI) (o := kyOf ts i) rfl rfl rfl rfl rfl rfl rfl rfl N24 (.head _) hoC4 (by rw [if_pos rfl]) (.tail _ (.tail _ (.tail _ (.tail _ (.tail _ (.tail _ m3)))))) d3 (.tail _ (.tail _ (.tail _ (.tail _ (.tail _ (.tail _ m4)))))) d4 (.tail _ (.tail _ (.tail _ (.head _)))) dk' (.tail _ (.tail _ (.tail _ (.tail _ (.tail _ (.tail _ mDI)))))) (by lia) (by lia) ej ?_)
        by_cases hQ : (if b = true then slt (kyOf ts j) (kyOf ts i) else slt (kyOf ts i) (kyOf ts j)) = true
        · refine cif_pos hQ ?_
          refine cname_l rfl rfl N24 (.head _) hoC4 rfl ?_
          refine ⟨h24, _, oC4, _, _, rfl, hoC4, F24, N24, off22, rfl, by simp; lia, ?_⟩
          rw [etk, List.filter_append, List.filter_cons_of_pos (by exact hQ), List.filter_nil]
          exact kct_snoc hst
        · refine cif_neg hQ ?_
          refine ⟨h24, _, oC4, _, _, rfl, hoC4, F24, N24, off22, rfl, by lia, ?_⟩
          rw [etk, List.filter_append, List.filter_cons_of_neg (by exact hQ), List.filter_nil, List.append_nil]
          exact hst
    · rintro zs nb ⟨rfl, hzs, hst⟩ DA h25 tk25 F25 N25 offA
      rw [List.take_of_length_le (by simp; lia)] at hst
      replace F25 : Fr g' L' h25 _ := F25
      replace N25 : News g' L' h25 _ := N25
      have hrank := rank_at (b := b) hjt
      rw [← hst.length] at hrank
      obtain ⟨tr, er⟩ := strs_at hrs hjt
      have N26 := N25
      rw [← hrest] at N26
      k_steps
      unfold Hold
      refine at_subn (its := rs) (n := nR) (by exact N25) (.tail _ (.tail _ (.tail _ (.tail _ hRr)))) hj (Nat.lt_trans hz (by decide)) er ?_ (by with_unfolding_all rfl)
      k_steps
      unfold Hold
      refine at_len (its := zs) (n := zs.length) (by exact N25) (.head _) (by lia) ?_
      k_steps
      unfold Hold
      refine kms_slice_lit (zs := ys.take j) (lo := none) (hi := some (j : Int)) (by exact F25) (by exact N26) (PySem.IsL.isList (n := ys.length) (by exact (N25 _ (.tail _ (.tail _ (.tail _ (.tail _ mDI))))).1)) .none (.int _ _) ?_ ?_ (by with_unfolding_all rfl) (by intro _; with_unfolding_all rfl) (by simp [sizeLine_eq]; lia)
      · simp only [kms_pick, kms_lo, kms_hi, List.drop_zero]
        rw [if_neg (by lia)]
        congr 1
        simp; lia
      intro DS h27 F27 N27 lt27
      k_steps
      unfold Hold
      refine at_subn (its := ys) (n := ys.length) (by exact N27) (.tail _ (.tail _ (.tail _ (.tail _ (.tail _ (.head _)))))) (by rw [hyl]; exact hj) (by rw [hyl]; exact Nat.lt_trans hz (by decide)) ej ?_ (by with_unfolding_all rfl)
      k_steps
      unfold Hold
      refine count_list_strs (vs := ys.take j) (ys := (ts.map inn).take j) (PySem.IsL.isList (n := 0) (by exact (N27 _ (.head _)).1)) (strs_take j hys') ?_
      rw [count_eq]
      k_steps
      unfold Hold
      rw [← Int.natCast_add, ← hrank]
      refine at_set (its := cur) (n := nO) (tl := (L' + 1 + 1 + 1, ock') :: (h9.objs.size, o10) :: rest) (by exact F27) (nc (N27 _ (.tail _ (.tail _ (.tail _ (.tail _ (.head _)))))) (nc (N27 _ (.tail _ (.tail _ (.head _)))) (nc (N27 _ (.tail _ (.tail _ (.tail _ (.head _))))) fun p hp => N27 p (.tail _ (.tail _ (.tail _ (.tail _ (.tail _ (hrest.symm ▸ hp))))))))) (oc (Nat.ne_of_lt lO1) (oc (off10 _ (.head _)).symm offO)) (by lia) (by have := rank_lt (swoO (b := b) (ts := ts)) hjt; have := hP.1; lia) (by have := rank_lt (swoO (b := b) (ts := ts)) hjt; lia) ?_
      intro h28 F28 N28
      k_steps
      unfold Hold
      refine ⟨h28, _, _, _, rfl, F28, p_back3 N28, oc (off10 (lO, listOf cur.toArray nO) (.head _)) (oc (off10 (L' + 1 + 1 + 1, ock) (.tail _ (.head _))) fun p hp => off10 p (.tail _ (.tail _ hp))), cur.set (rank (ordOf b ts) ts.length j) (.str (txt ts j) tr), ock', nO, _, rfl, dk', ?_, rfl, rfl⟩
      have := hP.step swoO hj
      rw [er, hrl] at this
      exact this
  · rintro m' tl' h30 tk30 F30 N30 ⟨cur, ock, nO, v, rfl, dk, hP, m1, m2⟩
    replace F30 := puts F30 [(Str.ofString "order", .ref lO)] (pm m2 pn)
    dsimp only [putM] at F30
    clear F9 N9
    k_steps
    rename_i kF kN _ _
    have hR2 := hP.ranked swoO hrs
    refine ret lO nO h30 _ cur.toArray (cur.map strOf) kF (news_sub kN fun p hp => ?_) (fun p hp => Nat.ne_of_lt (lO5 p hp)) hR2.1 hR2.2
    rw [← hrest]
    rcases List.mem_cons.mp hp with rfl | hp
    · exact .head _
    exact .tail _ (.tail _ (.tail _ (.tail _ (.tail _ hp))))
local macro_rules | `(tactic| walk_at "exec For Name Call cons nil") => `(tactic| refine Mine.hold ?_)
inductive HpJ (ts : List Str) (lH : Addr) (rest : List (Addr × Obj)) (j : Nat) (m' : Str → Option Value) (tl' : List (Addr × Obj)) : Prop
  | mk (cur : List Value) (f : Value → It) (nH : Nat) (G : List (Addr × Obj)) (a1 : tl' = (lH, listOf cur.toArray nH) :: (G ++ rest)) (a2 : ∀ p ∈ G ++ rest, p.1 ≠ lH) (a3 : HS ts f cur G) (a4 : (cur.map (idx f)).Perm (List.range j)) : HpJ ts lH rest j m' tl'
inductive HpT (ts : List Str) (f : Value → It) (G : List (Addr × Obj)) (lH : Addr) (rest : List (Addr × Obj)) (ys : List Value) (nb : List (Addr × Obj)) (k : Nat) : Prop
  | mk (cur : List Value) (n : Nat) (Y : List Nat) (a1 : nb = (lH, listOf cur.toArray n) :: (G ++ rest)) (a2 : HS ts f cur G) (a3 : OutInv ts f cur Y) (a4 : Y.length = k) (a5 : ys.length = k) (a6 : StrsAre ys (Y.map (txt ts))) : HpT ts f G lH rest ys nb k
theorem heaped_c {w : World} {loose : List Str} {mean : ExcName → Option Value} {mg mb : Str → Option Value}
    {dp un : Nat} {gd : Option (List Code)} {cn : Str} {cs : Scope} {a : Addr} {ccd : Value} {cl : List (Str × Addr)} {outer : List Env} {A₀ : Around} {base h₀ : Heap} {L : Addr} {m : Str → Option Value} {s : Shared} {Q E : Value → Shared → Prop}
    {news : List (Addr × Obj)} {R : Addr} {nR : Nat} {rs : List Value} {ts : List Str}
    (B : Below A₀ base outer h₀) (F : Fr h₀ L s.heap m) (X : (hd1.heap_39 w.params).In h₀) (N : News h₀ L s.heap news) (T : Top hd1.view_39 loose mean mg mb h₀)
    (hk : cs.kind = .function) (hd : dp + 6 < recursionLimit) (hu : un + 50 < cLine) (hR : (R, listOf rs.toArray nR) ∈ news) (hrs : StrsAre rs ts) (hz : rs.length < 50) (hts : ∀ x ∈ ts, x.length < 1000)
    (ret : ∀ D n' h' tk' out ls, Fr h₀ L h' m → News h₀ L h' ((D, listOf out n') :: news) → (∀ p ∈ news, p.1 ≠ D) → StrsAre out.toList ls → Ranked (ltS (kyOf ts)) ts ls → Q (.ref D) { s with heap := h', toks := tk' }) :
    wpAny (model PySem.Challenge.rw_nb0235_01.row.prog w) (ktrTop dp un gd cn cs L a ccd cl outer) (call (.ref 125) [.ref R]) Q E s := by
  revert X; k_fill; intro X
  refine wpAny_call ?_
  refine' code_defC ?k1 ?k2 ?k3 ?k4 ?k5 ?kA ?kF ?kK ?k6 ?k7 ?k8 ?k9 ?kB ?kD ?_ ?c2 ?c3 ?c4; (case kA => exact rfl); (case kF => exact rfl); (case kK => assumption); (case k1 => k_asm); (case k2 => k_asm); (case k3 => k_asm); (case k4 => k_asm); (case k5 => k_asm); (case k6 => k_is); (case k7 => k_is); (case k8 => ktr_room); (case k9 => first | exact BindsTo.of_eq rfl | exact binds_K (by k_in) rfl (by k_is) rfl rfl rfl | fail "k_enter: no rule for these arguments"); (case kB => exact rfl); (case kD => decide +kernel); (case c2 => exact rfl); (case c3 => exact rfl); (case c4 => exact rfl); k_whole; intro g' L' h1 tk1 cells1 FG F1 N1 Y1 B1 X1 T1 l1; k_cells Y1; (try simp only [List.cons_append, List.nil_append] at N1); (try dsimp only); (try k_unmd); (try k_fold)
  rename_i oc1 oc2 d1 d2
  obtain ⟨m0, F1⟩ := fr_abs F1 [] (fun _ h => (nomatch h))
  dsimp only [putM] at F1
  replace d1 : oc1.data = .cell none := d1
  replace d2 : oc2.data = .cell (some (.ref R)) := d2
  k_steps
  rename_i lH h2 F2 N2 lt2
  refine store_cell rfl rfl rfl (by exact F2) (by exact news_swap N2) (oc (Nat.ne_of_gt lt2.1) (oc (Nat.ne_of_lt (Nat.lt_succ_self _)) fun p hp => Nat.ne_of_lt (Nat.lt_succ_of_lt (Nat.lt_succ_of_lt (l1 p hp))))) d1 ?_
  intro h3 oc3 d3 F3 N3
  have hrl := hrs.length
  have lH1 : ∀ p ∈ (L' + 1 + 1, oc3) :: (L' + 1, oc2) :: news, p.1 < lH := List.forall_mem_cons.mpr ⟨lt2.1, List.forall_mem_cons.mpr ⟨lt2.2.1, fun p hp => allLt_mem lt2.2.2 p hp⟩⟩
  have hRr : (R, listOf rs.toArray nR) ∈ (L' + 1 + 1, oc3) :: (L' + 1, oc2) :: news := .tail _ (.tail _ hR)
  k_steps
  unfold Hold
  k_dflt (refine for_c ?_)
  k_steps
  unfold Hold
  refine at_len (by exact N3) (.tail _ (.tail _ (.tail _ hR))) (by lia) ?_
  k_steps
  rename_i h9 _ _ _ _ hRg F9 N9 up9
  unfold Hold
  refine pyIter_rng hRg hz ?_
  generalize hrest : (L' + 1 + 1, oc3) :: (L' + 1, oc2) :: news = rest at lH1 hRr
  have m3 : (L' + 1 + 1, oc3) ∈ rest := hrest ▸ .head _
  have m2 : (L' + 1, oc2) ∈ rest := hrest ▸ .tail _ (.head _)
  have N9' : News g' L' h9 ((lH, listOf ([] : List Value).toArray 0) :: ([] ++ rest)) :=
    hrest ▸ nc (N9 _ (.tail _ (.head _))) (nc (N9 _ (.head _)) fun p hp => N9 p (.tail _ (.tail _ hp)))
  refine for_up (s₀ := s) (x0 := 0) (cnt := rs.length) rfl rfl (by exact F9.push _) (by exact News.push F9 N9' _) (fun p hp => Nat.ne_of_lt (Heap.lt_size (N9' p hp).1)) (fun _ => rfl)
    (HpJ ts lH rest)
    ⟨[], fun _ => ⟨Str.empty, 0, Str.empty⟩, _, [], rfl, fun p hp => Nat.ne_of_lt (lH1 p hp), HS.nil, .nil⟩ ?_ ?_
  · rintro j m' tl' h10 tk10 o10 hj F10 N10 off10 ⟨cur, f, nH, G, rfl, offH, hS, hper⟩
    have hjt : j < ts.length := by lia
    have hcl : cur.length = j := by have := hper.length_eq; simpa using this
    obtain ⟨tr, er⟩ := strs_at hrs hjt
    clear F9 N9 N9'
    have N11 : News g' L' h10 ((L' + 1 + 1, oc3) :: (L' + 1, oc2) :: (h9.objs.size, o10) :: (lH, listOf cur.toArray nH) :: (G ++ rest)) :=
      nc (N10 _ (.tail _ (.tail _ (List.mem_append_right _ m3)))) (nc (N10 _ (.tail _ (.tail _ (List.mem_append_right _ m2)))) N10)
    clear N10
    rw [Int.zero_add]
    k_steps
    rename_i h12 F12 N12
    unfold Hold
    refine at_subn (its := rs) (n := nR) (by exact N12) (.tail _ (.tail _ (.tail _ (.tail _ (List.mem_append_right _ hRr))))) hj (Nat.lt_trans hz (by decide)) er ?_ (by with_unfolding_all rfl)
    k_steps
    unfold Hold
    have htm : txt ts j ∈ ts := by simp [txt, List.getD, hjt]
    refine strip_c (by k_asm) (by exact F12) (by k_asm) (by exact N12) (by k_asm) rfl (lim (b := 2) hd (by decide)) (lim (b := 11) hu (by decide)) (hts _ htm) ?_
    intro t13 h13 tk13 F13 N13
    k_steps
    rename_i D14 h14 F14 N14 l14
    have fresh14 : ∀ p ∈ G ++ rest, p.1 < D14 := allLt_mem l14.2.2.2.2
    have haG : ∀ p ∈ G, p.1 ≠ D14 := fun p hp => Nat.ne_of_lt (fresh14 p (List.mem_append_left _ hp))
    have hpush := hS.push (a := D14) (k := j) (n := 0) (t1 := t13) (t2 := tk10) haG
    have hl' := hS.lst' (a := D14) (k := j) (n := 0) (t1 := t13) (t2 := tk10) haG
    unfold Hold
    refine heappush_c (its := cur) (v := .ref D14) (n := nH) (D := lH) (tl := (D14, listOf #[.str (kyOf ts j) t13, .int (j : Int) tk10] 0) :: (L' + 1 + 1, oc3) :: (L' + 1, oc2) :: (h9.objs.size, o10) :: (G ++ rest))
      (lt := fun x y => ilt (upd f D14 ⟨kyOf ts j, j, Str.empty⟩ x) (upd f D14 ⟨kyOf ts j, j, Str.empty⟩ y)) (S := (· ∈ cur ++ [.ref D14])) (by k_asm) (by exact F14) (by k_asm) (nc (N14 _ (.tail _ (.tail _ (.tail _ (.tail _ (.head _)))))) (nc (N14 _ (.head _)) (nc (N14 _ (.tail _ (.head _))) (nc (N14 _ (.tail _ (.tail _ (.head _)))) (nc (N14 _ (.tail _ (.tail _ (.tail _ (.head _))))) fun p hp => N14 p (.tail _ (.tail _ (.tail _ (.tail _ (.tail _ hp)))))))))) (by k_asm) rfl (lim (b := 3) hd (by decide)) (lim (b := 19) hu (by decide)) (by lia)
      (ltok_lst fun v hv => (hl' v hv).mono (List.forall_mem_cons.mpr ⟨.head _, fun p hp => .tail _ (.tail _ (.tail _ (.tail _ (List.mem_append_left _ hp))))⟩)) (fun x hx => List.mem_append_left _ hx) (List.mem_append_right _ (.head _)) (oc (Nat.ne_of_gt l14.2.2.2.1) (oc (offH _ (List.mem_append_right _ m3)) (oc (offH _ (List.mem_append_right _ m2)) (oc (off10 _ (.head _)).symm offH)))) ?_
    intro n15 h15 tk15 F15 N15
    obtain ⟨new, hS2, hper2, N16⟩ : ∃ new : List Value, HS ts (upd f D14 ⟨kyOf ts j, j, Str.empty⟩) new ((D14, listOf #[.str (kyOf ts j) t13, .int (j : Int) tk10] 0) :: G) ∧ (new.map (idx (upd f D14 ⟨kyOf ts j, j, Str.empty⟩))).Perm (cur.map (idx f) ++ [j]) ∧
        News g' L' h15 ((lH, listOf new.toArray n15) :: (D14, listOf #[.str (kyOf ts j) t13, .int (j : Int) tk10] 0) :: (L' + 1 + 1, oc3) :: (L' + 1, oc2) :: (h9.objs.size, o10) :: (G ++ rest)) := ⟨_, hpush.1, hpush.2, N15⟩
    clear N15 hpush hl'
    k_steps
    rename_i tk16
    unfold Hold
    refine ⟨h15, _, _, _, rfl, F15, nc (N16 _ (.tail _ (.tail _ (.tail _ (.tail _ (.head _)))))) (nc (N16 _ (.head _)) (nc (N16 _ (.tail _ (.head _))) fun p hp => N16 p (.tail _ (.tail _ (.tail _ (.tail _ (.tail _ hp))))))), oc (off10 (lH, listOf cur.toArray nH) (.head _)) (oc (Nat.ne_of_gt l14.2.2.1) fun p hp => off10 p (.tail _ hp)), new, _, n15, (D14, listOf #[.str (kyOf ts j) t13, .int (j : Int) tk10] 0) :: G, rfl, oc (Nat.ne_of_gt l14.2.2.2.1) offH, hS2, ?_⟩
    rw [List.range_succ]
    exact hper2.trans (hper.append_right [j])
  · rintro m' tl' h20 tk20 F20 N20 ⟨cur, f, nH, G, rfl, offH, hS, hper⟩
    have hcl : cur.length = rs.length := by have := hper.length_eq; simpa using this
    clear F9 N9 N9'
    have N21 : News g' L' h20 ((L' + 1 + 1, oc3) :: (L' + 1, oc2) :: (lH, listOf cur.toArray nH) :: (G ++ rest)) :=
      nc (N20 _ (.tail _ (List.mem_append_right _ m3))) (nc (N20 _ (.tail _ (List.mem_append_right _ m2))) N20)
    k_steps
    unfold Hold
    refine lc_valueF (by exact F20) (cl := [(Str.ofString "row", L' + 1), (Str.ofString "heap", L' + 1 + 1)]) (by rfl) (by decide) rfl (by decide) ?_
    k_steps
    unfold Hold
    refine at_len (by exact N21) (.tail _ (.tail _ (.tail _ (List.mem_append_right _ hRr)))) (by lia) ?_
    k_steps
    rename_i h22 _ _ _ _ hRg2 F22 N22 up22
    unfold Hold
    refine pyIter_rng hRg2 hz ?_
    have N23 : News g' L' h22 ((lH, listOf cur.toArray nH) :: (G ++ rest)) := fun p hp => N22 p (.tail _ (.tail _ hp))
    have hpo_e : ∃ fo fd, g'.get? 28 = some fo ∧ fo.data = .func fd := ⟨_, _, X1 28 _ (by k_is), rfl⟩
    have hpo := hpo_e.choose_spec.choose_spec.1
    have hpd := hpo_e.choose_spec.choose_spec.2
    refine range_lcat (x0 := 0) (cnt := rs.length) rfl (by exact F22.push _) (by exact News.push F22 N23 _) (fun p hp => Nat.ne_of_lt (Heap.lt_size (N23 p hp).1)) (by lia)
      (HpT ts f G lH rest)
      ⟨cur, nH, [], rfl, hS, ⟨by rw [List.nil_append, ← hrl]; exact hper, .nil, fun _ h => (nomatch h)⟩, rfl, rfl, .nil⟩ (fun ys nb k h => by obtain ⟨_, _, _, _, _, _, _, h, _⟩ := h; lia) ?_ ?_
    · rintro k tq hkc ys nb C oC D m9 h23 tk23 io ⟨cur, n, Y, rfl, hS, hO, hY, hyl, hst⟩ hoC F23 N24 hCD hIC hID off23
      refine asg1 rfl rfl F23 (by exact N24) hoC (off_c hCD hIC off23) ?_
      intro h24 oC4 F24 N25 hoC4
      refine wpAny_tests_nil ?_
      refine cif_pos rfl ?_
      have hcl2 : Y.length + cur.length = rs.length := by have := hO.perm.length_eq; simp at this; lia
      obtain ⟨its, y, rfl⟩ : ∃ its y, cur = its ++ [y] := by
        have hne : cur ≠ [] := fun e => by rw [e] at hcl2; simp at hcl2; lia
        exact ⟨cur.dropLast, cur.getLast hne, (List.dropLast_concat_getLast hne).symm⟩
      have hpop := hS.pop
      refine Subscript_ (cname_c rfl rfl rfl N25 (.tail _ (.tail _ (.tail _ (.tail _ (List.mem_append_right _ m2))))) d2 ?_)
      refine Subscript_ (Call_ (cname_g rfl rfl rfl (by exact F24) X1 (topRead_of T1) (by k_is) ?_))
      refine callWith_def hpd (args_cons (cname_c rfl rfl rfl N25 (.tail _ (.tail _ (.tail _ (.tail _ (List.mem_append_right _ m3))))) d3 (args_nil ⟨F24.keep _ _ hpo, ?_⟩)))
      have hil : its.length < 50 := by simp at hcl2; lia
      refine heappop_c (its := its) (y := y) (n := n) (D := lH) (tl := (C, oC4) :: (D, LCg.lst ys) :: io :: (G ++ rest)) (lt := fun x y => ilt (f x) (f y)) (S := (· ∈ its ++ [y])) B1 (by exact F24) X1 (nc (N25 _ (.tail _ (.tail _ (.tail _ (.head _))))) (nc (N25 _ (.head _)) (nc (N25 _ (.tail _ (.head _))) (nc (N25 _ (.tail _ (.tail _ (.head _)))) fun p hp => N25 p (.tail _ (.tail _ (.tail _ (.tail _ hp)))))))) T1 rfl (lim (b := 4) hd (by decide)) (lim (b := 27) hu (by decide)) (by lia)
        (ltok_lst fun v hv => (hS.lst v hv).mono fun p hp => .tail _ (.tail _ (.tail _ (List.mem_append_left _ hp)))) (fun x hx => List.mem_append_left _ hx) (List.mem_append_right _ (.head _)) (oc (off23 _ (.head _)).1.symm (oc (off23 _ (.head _)).2.1.symm (oc (off23 _ (.head _)).2.2.symm offH))) ?_
      intro n26 h26 tk26 F26 N26
      obtain ⟨new, hS2, hp2, hl2, N27⟩ : ∃ new : List Value, HS ts f new G ∧ ((its ++ [y]).getD 0 .none :: new).Perm (its ++ [y]) ∧ (∀ v ∈ new, ilt (f v) (f ((its ++ [y]).getD 0 .none)) = false) ∧ News g' L' h26 ((lH, listOf new.toArray n26) :: (C, oC4) :: (D, LCg.lst ys) :: io :: (G ++ rest)) := ⟨_, hpop.1, hpop.2.1, hpop.2.2, N26⟩
      clear N26 hpop
      generalize (its ++ [y]).getD 0 .none = r at hp2 hl2 ⊢
      have hr : r ∈ its ++ [y] := hp2.mem_iff.mp (.head _)
      obtain ⟨ar, u1, u2, nn, rfl, mr⟩ := hS.lst r hr
      obtain ⟨ko, kk⟩ := hS.key _ hr
      have hlt : idx f (.ref ar) < ts.length := by
        have := (hO.step hS hp2 hl2).perm.mem_iff.mp (List.mem_append_left _ (List.mem_append_right _ (.head _)))
        exact List.mem_range.mp this
      refine wpAny_Constant_int ?_
      refine at_sub (its := [.str (f (.ref ar)).key u1, .int (f (.ref ar)).ord u2]) (n := nn) (by exact N27) (.tail _ (.tail _ (.tail _ (.tail _ (List.mem_append_left _ mr))))) (by decide) (by simp) (by decide) ?_ (by with_unfolding_all rfl)
      obtain ⟨tz, ez⟩ := strs_at hrs hlt
      show wpAny _ _ (subscriptTail _ _ (.ref R) (.int (f (.ref ar)).ord u2)) _ _ _
      refine at_subv (its := rs) (n := nR) (by exact N27) (.tail _ (.tail _ (.tail _ (.tail _ (List.mem_append_right _ hRr))))) (by lia) (by lia) (Nat.lt_trans hz (by decide)) ez ?_ (by with_unfolding_all rfl)
      refine ⟨h26, _, oC4, _, _, rfl, hoC4, F26, nc (N27 _ (.tail _ (.head _))) (nc (N27 _ (.tail _ (.tail _ (.head _)))) (nc (N27 _ (.tail _ (.tail _ (.tail _ (.head _))))) (nc (N27 _ (.head _)) fun p hp => N27 p (.tail _ (.tail _ (.tail _ (.tail _ hp))))))), List.forall_mem_cons.mpr ⟨off23 (lH, listOf (its ++ [y]).toArray n) (.head _), fun p hp => off23 p (.tail _ hp)⟩, new, n26, Y ++ [idx f (.ref ar)], rfl, hS2, hO.step hS hp2 hl2, by simp [hY], by simp [hyl], ?_⟩
      rw [List.map_append]
      exact kct_snoc hst
    · rintro ys nb ⟨cur', n', Y, rfl, hS', hO, hY, hyl, hst⟩ D25 h25 tk25 F25 N25 off25
      have hc0 : cur' = [] := by
        have := hO.perm.length_eq
        simp at this
        exact List.length_eq_zero_iff.mp (by lia)
      subst hc0
      k_steps
      rename_i kF kN _ _
      refine ret D25 ys.length h25 _ ys.toArray (Y.map (txt ts)) kF (news_sub kN fun p hp => ?_) (fun p hp => ?_) hst hO.fin
      · rw [← hrest]
        rcases List.mem_cons.mp hp with rfl | hp
        · exact .head _
        exact .tail _ (.tail _ (List.mem_append_right _ (.tail _ (.tail _ hp))))
      · exact off25 p (.tail _ (List.mem_append_right _ (hrest ▸ .tail _ (.tail _ hp))))
local macro_rules | `(tactic| walk_at "call builtin:iter") => `(tactic| refine Mine.hold ?_)
local macro_rules | `(tactic| walk_at "LeaveT") => `(tactic| refine Mine.hold ?_)
local macro_rules | `(tactic| walk_at "subscriptTail Name Slice ref ref") => `(tactic| refine Mine.hold ?_)
local macro_rules | `(tactic| walk_at "compareOp Eq ref ref") => `(tactic| refine Mine.hold ?_)
noncomputable def CutN (R : Shared → Prop) (f : Flow) (s : Shared) : Prop := f = .next ∧ R s
theorem cutn {R : Shared → Prop} {s : Shared} (h : Hold (R s)) : CutN R .next s := ⟨rfl, h⟩
theorem cutN {M : Model} {A : Around} {E : Value → Shared → Prop} {s : Shared} {env : Env} {st : Stmt} {rest : List Stmt} {Q : Flow → Shared → Prop} (R : Shared → Prop)
    (h1 : wpAny M A (exec st env) (CutN R) E s) (h2 : ∀ s', R s' → wpAny M A (execs rest env) Q E s') : wpAny M A (execs (st :: rest) env) Q E s :=
  wpAny_execs_cons (wpAny_mono h1 (fun f s' h => by obtain ⟨rfl, hr⟩ := h; exact h2 s' hr) fun _ _ e => e)
local macro_rules | `(tactic| walk_at "CutN") => `(tactic| refine Mine.cutn ?_)
theorem cells_nil {cm : Str → Option Value} {cells : List (Addr × Obj)} (x : CellsAre cm [] cells) : cells = [] := by cases x; rfl
inductive RtA (A : Around) (base : Heap) (env : Env) (s : Shared) (g' : Heap) (L' : Addr) (news : List (Addr × Obj)) (ts : List Str) (R Dl Dm : Addr) (n : Int) (t : Tok) (s' : Shared) : Prop
  | mk (g2 h : Heap) (tk : Nat) (m' : Str → Option Value) (D : Addr) (out : Array Value) (Y : List Nat) (n' : Nat) (a1 : s' = { s with heap := h, toks := tk }) (a2 : KtsTurn (frs [env]) g' g2) (a3 : Below A base [env] g2) (a4 : Fr g2 L' h m') (a5 : News g2 L' h ((D, listOf out n') :: news)) (a6 : ∀ p ∈ news, p.1 ≠ D)
    (a7 : StrsAre out.toList (Y.map (txt ts))) (a8 : Best (ltS (kyOf ts)) ts.length Y) (a9 : Y.length = min n.toNat ts.length) (m1 : m' (Str.ofString "row") = some (.ref R)) (m2 : m' (Str.ofString "least") = some (.ref Dl)) (m3 : m' (Str.ofString "most") = some (.ref Dm)) (m4 : m' (Str.ofString "n") = some (.int n t)) (m5 : m' (Str.ofString "few") = some (.ref D)) : RtA A base env s g' L' news ts R Dl Dm n t s'
inductive RtB (A : Around) (base : Heap) (env : Env) (s : Shared) (g' : Heap) (L' : Addr) (news : List (Addr × Obj)) (ts : List Str) (D Dl Dm : Addr) (n : Int) (t : Tok) (s' : Shared) : Prop
  | mk (g3 h : Heap) (tk : Nat) (m' : Str → Option Value) (D' : Addr) (out' : Array Value) (Z : List Nat) (n' : Nat) (a1 : s' = { s with heap := h, toks := tk }) (a2 : KtsTurn (frs [env]) g' g3) (a3 : Below A base [env] g3) (a4 : Fr g3 L' h m') (a5 : News g3 L' h ((D', listOf out' n') :: news))
    (a7 : StrsAre out'.toList (Z.map (txt ts))) (a8 : Best (ltL (kyOf ts)) ts.length Z) (a9 : Z.length = min n.toNat ts.length) (m2 : m' (Str.ofString "least") = some (.ref Dl)) (m3 : m' (Str.ofString "most") = some (.ref Dm)) (m4 : m' (Str.ofString "n") = some (.int n t)) (m5 : m' (Str.ofString "few") = some (.ref D)) (m6 : m' (Str.ofString "big") = some (.ref D')) : RtB A base env s g' L' news ts D Dl Dm n t s'
theorem right_c {w : World} {loose : List Str} {mean : ExcName → Option Value} {mg mb : Str → Option Value}
    {dp un : Nat} {gd : Option (List Code)} {cn : Str} {cs : Scope} {a : Addr} {ccd : Value} {cl : List (Str × Addr)} {A₀ : Around} {base h₀ : Heap} {L : Addr} {m : Str → Option Value} {s : Shared} {Q E : Value → Shared → Prop}
    {news : List (Addr × Obj)} {R Dl Dm : Addr} {nR nl nm : Nat} {rs lv mv : List Value} {ts ls ms : List Str} {n : Int} {t : Tok}
    (B : Below A₀ base [] h₀) (F : Fr h₀ L s.heap m) (X : (hd1.heap_39 w.params).In h₀) (N : News h₀ L s.heap news) (T : Top hd1.view_39 loose mean mg mb h₀)
    (hk : cs.kind = .function) (hd : dp + 30 < recursionLimit) (hu : un + 400 < cLine) (hR : (R, listOf rs.toArray nR) ∈ news) (hl : (Dl, listOf lv.toArray nl) ∈ news) (hm : (Dm, listOf mv.toArray nm) ∈ news)
    (hrs : StrsAre rs ts) (hlv : StrsAre lv ls) (hmv : StrsAre mv ms) (hRl : Ranked (ltS (kyOf ts)) ts ls) (hRm : Ranked (ltL (kyOf ts)) ts ms)
    (hz : rs.length < 50) (hts : ∀ x ∈ ts, x.length < 1000) (hrn : rs = [] ∨ 2 ≤ rs.length) (hn : -50 < n ∧ n < 50)
    (XB : (hd1.heap_39 w.params).In base) (TB : Top hd1.view_39 loose mean mg mb base)
    (ret : ∀ h' tk', Fr h₀ L h' m → News h₀ L h' news → Q (.bool true) { s with heap := h', toks := tk' }) :
    wpAny (model PySem.Challenge.rw_nb0235_01.row.prog w) (ktrTop dp un gd cn cs L a ccd cl []) (call (.ref 132) [.ref R, .ref Dl, .ref Dm, .int n t]) Q E s := by
  revert X; k_fill; intro X
  refine wpAny_call ?_
  refine' enterT ?k1 ?k2 ?k3 ?k4 ?k5 ?kA ?kF ?kK ?k6 ?k7 ?k8 ?k9 ?kB ?kD ?_ ?c2 ?c3 ?c4; (case kA => exact rfl); (case kF => exact rfl); (case kK => assumption); (case k1 => k_asm); (case k2 => k_asm); (case k3 => k_asm); (case k4 => k_asm); (case k5 => k_asm); (case k6 => k_is); (case k7 => k_is); (case k8 => ktr_room); (case k9 => first | exact BindsTo.of_eq rfl | exact binds_K (by k_in) rfl (by k_is) rfl rfl rfl | fail "k_enter: no rule for these arguments"); (case kB => exact rfl); (case kD => decide +kernel); (case c2 => exact rfl); (case c3 => exact rfl); (case c4 => exact rfl); k_whole; intro g' L' h' tk' cells' FG' F' N' Y' B' X' T' l1
  obtain rfl := cells_nil (by exact Y')
  clear Y'
  replace N' : News g' L' h' news := N'
  obtain ⟨m0, F'⟩ := fr_abs F' [(Str.ofString "row", .ref R), (Str.ofString "least", .ref Dl), (Str.ofString "most", .ref Dm), (Str.ofString "n", .int n t)] (List.forall_mem_cons.mpr ⟨rfl, List.forall_mem_cons.mpr ⟨rfl, List.forall_mem_cons.mpr ⟨rfl, List.forall_mem_cons.mpr ⟨rfl, fun _ h => (nomatch h)⟩⟩⟩⟩)
  dsimp only [putM] at F'
  (try dsimp only); (try k_unmd); (try k_fold)
  refine cutN (RtA (ktrTop dp un gd cn cs L a ccd cl []) base (envX cn cs L a ccd cl) s g' L' news ts R Dl Dm n t) ?_ ?_
  · k_steps
    · unfold Hold
      refine nsmallest_c (pre := []) B' (by exact F') X' (by exact N') T' rfl (lim (b := 21) hd (by decide)) (lim (b := 203) hu (by decide)) hR (.inl ⟨rfl, rfl⟩) hrs hz hts hrn hn XB TB ?_
      intro g2 D n2 h2 tk2 out Y T2 B2 F2 N2 off2 st2 be2 len2
      k_steps
      unfold Hold
      rename_i F3 N3
      exact ⟨g2, _, _, _, D, out, Y, n2, rfl, T2, B2, F3, N3, off2, st2, be2, len2, rfl, rfl, rfl, rfl, rfl⟩
    · unfold Hold
      refine call_iter_list (by exact F') (by exact N') hR ?_
      intro I o h1 ho F1 N1 off1
      k_steps
      unfold Hold
      refine nsmallest_c (pre := [(I, o)]) B' (by exact F1) X' (by exact N1) T' rfl (lim (b := 21) hd (by decide)) (lim (b := 203) hu (by decide)) hR (.inr ⟨I, o, rfl, rfl, ho, off1⟩) hrs hz hts hrn hn XB TB ?_
      intro g2 D n2 h2 tk2 out Y T2 B2 F2 N2 off2 st2 be2 len2
      k_steps
      unfold Hold
      rename_i F3 N3
      exact ⟨g2, _, _, _, D, out, Y, n2, rfl, T2, B2, F3, N3, off2, st2, be2, len2, rfl, rfl, rfl, rfl, rfl⟩
  · rintro _ ⟨g2, h2, tk2, m2, D, out, Y, n2, rfl, T2, B2, F2, N2, off2, st2, be2, len2, e1, e2, e3, e4, e5⟩
    have X2 : (hd1.heap_39 w.params).In g2 := XB.keeps B2.stays
    have P2 : Top hd1.view_39 loose mean mg mb g2 := TB.keeps B2.stays
    replace F2 := puts F2 [(Str.ofString "row", .ref R), (Str.ofString "least", .ref Dl), (Str.ofString "most", .ref Dm), (Str.ofString "n", .int n t), (Str.ofString "few", .ref D)] (pm e1 (pm e2 (pm e3 (pm e4 (pm e5 pn)))))
    dsimp only [putM] at F2
    clear F' N' X' T' B'
    refine cutN (RtB (ktrTop dp un gd cn cs L a ccd cl []) base (envX cn cs L a ccd cl) s g' L' ((D, listOf out n2) :: news) ts D Dl Dm n t) ?_ ?_
    · k_steps
      · unfold Hold
        refine call_iter_list (by exact F2) (by exact N2) (.tail _ hR) ?_
        intro I o h1 ho F1 N1 off1
        k_steps
        unfold Hold
        refine nlargest_c (news := (D, listOf out n2) :: news) (pre := [(I, o)]) B2 (by exact F1) X2 (by exact N1) P2 rfl (lim (b := 21) hd (by decide)) (lim (b := 203) hu (by decide)) (.tail _ hR) (.inr ⟨I, o, rfl, rfl, ho, off1⟩) hrs hz hts hrn hn XB TB ?_
        intro g3 D3 n3 h3 tk3 out3 Z T3 B3 F3 N3 off3 st3 be3 len3
        k_steps
        unfold Hold
        rename_i F4 N4
        exact ⟨g3, _, _, _, D3, out3, Z, n3, rfl, T2.trans T3, B3, F4, N4, st3, be3, len3, rfl, rfl, rfl, rfl, rfl⟩
      · unfold Hold
        refine nlargest_c (news := (D, listOf out n2) :: news) (pre := []) B2 (by exact F2) X2 (by exact N2) P2 rfl (lim (b := 21) hd (by decide)) (lim (b := 203) hu (by decide)) (.tail _ hR) (.inl ⟨rfl, rfl⟩) hrs hz hts hrn hn XB TB ?_
        intro g3 D3 n3 h3 tk3 out3 Z T3 B3 F3 N3 off3 st3 be3 len3
        k_steps
        unfold Hold
        rename_i F4 N4
        exact ⟨g3, _, _, _, D3, out3, Z, n3, rfl, T2.trans T3, B3, F4, N4, st3, be3, len3, rfl, rfl, rfl, rfl, rfl⟩
    · rintro _ ⟨g3, h3, tk3, m3, D3, out3, Z, n3, rfl, T3, B3, F3, N3, st3, be3, len3, e2, e3, e4, e5, e6⟩
      have X3 : (hd1.heap_39 w.params).In g3 := XB.keeps B3.stays
      have P3 : Top hd1.view_39 loose mean mg mb g3 := TB.keeps B3.stays
      replace F3 := puts F3 [(Str.ofString "least", .ref Dl), (Str.ofString "most", .ref Dm), (Str.ofString "n", .int n t), (Str.ofString "few", .ref D), (Str.ofString "big", .ref D3)] (pm e2 (pm e3 (pm e4 (pm e5 (pm e6 pn)))))
      dsimp only [putM] at F3
      clear F2 N2 X2 P2 B2
      k_steps
      rename_i h4 tk4 F4 N4
      have emx : (if (0 : Int) > n then (0 : Int) else n) = max n 0 := by split <;> lia
      unfold Hold
      refine kms_slice_lit (zs := lv.take (max n 0).toNat) (lo := none) (hi := some (if 0 > n then 0 else n)) (by exact F4) (by exact N4) (PySem.IsL.isList (n := nl) (by exact (N4 _ (.tail _ (.tail _ hl))).1)) .none (.int _ _) (by rw [emx]; exact pick_upto (by lia)) ?_ (by with_unfolding_all rfl) (by intro _; with_unfolding_all rfl) (by have := hlv.length; have := hRl.1; have := hrs.length; simp [sizeLine_eq]; lia)
      intro D5 h5 F5 N5 lt5
      k_steps
      unfold Hold
      refine eq_same (xs := out.toList) (ys := lv.take (max n 0).toNat) (zs := ls.take (max n 0).toNat) (PySem.IsL.isList (n := n2) (by exact (N5 _ (.tail _ (.tail _ (.head _)))).1)) (PySem.IsL.isList (n := 0) (by exact (N5 _ (.head _)).1)) (best_small be2 len2 hRl ▸ st2) (strs_take _ hlv) (lim (b := 3) hu (by decide)) ?_
      k_steps
      rename_i h6 tk6 F6 N6
      unfold Hold
      refine kms_slice_lit (zs := mv.take (max n 0).toNat) (lo := none) (hi := some (if 0 > n then 0 else n)) (by exact F6) (by exact N6) (PySem.IsL.isList (n := nm) (by exact (N6 _ (.tail _ (.tail _ (.tail _ hm)))).1)) .none (.int _ _) (by rw [emx]; exact pick_upto (by lia)) ?_ (by with_unfolding_all rfl) (by intro _; with_unfolding_all rfl) (by have := hmv.length; have := hRm.1; have := hrs.length; simp [sizeLine_eq]; lia)
      intro D7 h7 F7 N7 lt7
      k_steps
      unfold Hold
      refine eq_same (xs := out3.toList) (ys := mv.take (max n 0).toNat) (zs := ms.take (max n 0).toNat) (PySem.IsL.isList (n := n3) (by exact (N7 _ (.tail _ (.tail _ (.head _)))).1)) (PySem.IsL.isList (n := 0) (by exact (N7 _ (.head _)).1)) (best_large be3 len3 hRm ▸ st3) (strs_take _ hmv) (lim (b := 3) hu (by decide)) ?_
      k_steps
      unfold Hold
      try dsimp only
      refine leaveT (by exact F7) (by exact N7) T3 ?_
      intro h₀' T9 F9 N9 B9
      exact ret _ _ (fr_unturn T9 F9) (news_unturn T9 fun p hp => N9 p (.tail _ (.tail _ (.tail _ (.tail _ hp)))))
local macro_rules | `(tactic| walk_at "exec Assign") => `(tactic| k_fold)
local macro_rules | `(tactic| walk_at "exec If") => `(tactic| k_fold)
local macro_rules | `(tactic| walk_at "exec Return some") => `(tactic| k_fold)
local macro_rules | `(tactic| walk_at "compareOp NotEq ref ref") => `(tactic| refine Mine.hold ?_)
local macro_rules | `(tactic| walk_at "binaryOp Add ref ref") => `(tactic| refine Mine.hold ?_)
theorem strs_append : ∀ {xs ys : List Value} {us vs : List Str}, StrsAre xs us → StrsAre ys vs → StrsAre (xs ++ ys) (us ++ vs)
  | _, _, _, _, .nil, h => h
  | _, _, _, _, .cons y t r, h => .cons y t (strs_append r h)
theorem ints_mem : ∀ {vs : List Value} {ns : List Int} {v : Value}, IntsAre vs ns → v ∈ vs → ∃ x t, v = .int x t
  | _, _, _, .cons k t r, h => by
    rcases List.mem_cons.mp h with rfl | h
    · exact ⟨_, _, rfl⟩
    · exact ints_mem r h
theorem Ranked.unique {lt : Nat → Nat → Bool} (W : SWO lt) {row a b : List Str} (ha : Ranked lt row a) (hb : Ranked lt row b) : a = b := by
  apply List.ext_getElem?
  intro i
  by_cases hi : i < row.length
  · obtain ⟨k, hk, rfl⟩ := rank_surj W hi
    rw [ha.2 k hk, hb.2 k hk]
  · rw [List.getElem?_eq_none (by rw [ha.1]; lia), List.getElem?_eq_none (by rw [hb.1]; lia)]
theorem small_m1 {n : Nat} (hn : n < 20) : Builtin.Range.small (-1) ((n : Int) + 2) 1 = true := by
  have h : ∀ k : Fin 20, Builtin.Range.small (-1) ((k.val : Int) + 2) 1 = true := by decide +kernel
  exact h ⟨n, hn⟩
theorem rsize_m1 {n : Nat} : Builtin.Range.rangeSize (-1) ((n : Int) + 2) 1 = ((n + 3 : Nat) : Int) := by
  unfold Builtin.Range.rangeSize
  rw [if_pos (by decide)]
  split <;> ((try simp only [Int.ediv_one]); lia)
theorem law_holds : PySem.Challenge.rw_nb0235_01.Holds := hd1 (by
  k_go0
  all_goals try k_fold
  rename_i w s₀ s₁ mg mb G Y fa o pm doc ho hg KX X V GL T BT TE TW _ _ M _ cd9 hcd ns hs hlay0 hL1 hr1 hl2 _ _ S vs _ hSL ra w1 r0 hI hr hcond hcond1 K0 hD h1 tk1 F1 oc1 oc2 oc3 d1 d2 d3 N1 X0
  obtain ⟨m0, F1⟩ := fr_abs F1 [(Str.ofString "script", .ref S)] (List.forall_mem_cons.mpr ⟨rfl, fun _ h => (nomatch h)⟩)
  dsimp only [putM] at F1
  replace d1 : oc1.data = .cell none := d1
  replace d2 : oc2.data = .cell none := d2
  replace d3 : oc3.data = .cell none := d3
  k_steps
  have K1 : Below callerA s₁.heap [] s₁.heap := K0
  have hvl : vs.length ≤ 63 := by have := hI.length; lia
  have hfo_e : ∃ fo fd, s₁.heap.get? 108 = some fo ∧ fo.data = .func fd := ⟨_, _, KX 108 _ (by k_is), rfl⟩
  have hfo := hfo_e.choose_spec.choose_spec.1
  have hfd := hfo_e.choose_spec.choose_spec.2
  unfold Hold
  refine lc_valueF (by exact F1) (cl := []) (by rfl) (by decide) rfl (by decide) ?_
  k_steps
  unfold Hold
  refine kms_slice_lit (zs := vs.take 3) (lo := none) (hi := some 3) (by exact F1) (by exact N1) (Fr.lst F1 hSL) .none (.int _ _) (pick_upto (by decide)) ?_ (by with_unfolding_all rfl) (by intro _; with_unfolding_all rfl) (by simp [sizeLine_eq]; lia)
  intro DS h2 F2 N2 lt2
  k_steps
  unfold Hold
  refine wpAny_pyIter_list (PySem.IsL.isList (n := 0) (by exact (N2 _ (.head _)).1)) ?_
  refine list_lcat (its := vs.take 3) (nl := 0) (l := DS) rfl (by exact F2.push _) (by exact News.push F2 N2 _) ⟨rfl, rfl⟩ (fun p hp => Nat.ne_of_lt (Heap.lt_size (N2 p hp).1)) (by rw [List.length_take]; exact Nat.lt_of_le_of_lt (Nat.min_le_left _ _) (by decide))
    (fun ys nb k => nb = _ ∧ ys.length = k ∧ ∃ zs, StrsAre ys zs ∧ ∀ z ∈ zs, z.length ≤ 4) ⟨rfl, rfl, [], .nil, fun _ h => (nomatch h)⟩ (fun ys nb k h => ⟨h.1 ▸ .head _, Nat.le_of_eq h.2.1⟩) (.inl fun _ => rfl) ?_ ?_
  · rintro i v hi hv ys nb C oC D m9 h22 tk22 io ⟨rfl, hys, zs, hst, hz4⟩ hoC F22 N23 hCD hIC hID off22
    obtain ⟨x, tx, rfl⟩ := ints_mem hI (List.mem_of_mem_take (List.mem_of_getElem? hv))
    refine asg1 rfl rfl F22 (by exact N23) hoC (off_c hCD hIC off22) ?_
    intro h24 oC4 F24 N24 hoC4
    refine wpAny_tests_nil ?_
    refine cif_pos rfl ?_
    refine Call_ (cname_g rfl rfl rfl (by exact F24) KX (topRead_of T) (by k_is) ?_)
    refine callWith_def hfd (args_cons (cname_l rfl rfl (by exact N24) (.head _) hoC4 (by rw [if_pos rfl]) (args_nil ⟨F24.keep _ _ hfo, ?_⟩)))
    refine text_c K1 (by exact F24) KX (by exact N24) T rfl (by decide) (by decide) ?_
    intro y t' h' tk' hy F' N'
    refine ⟨h', tk', oC4, _, _, rfl, hoC4, F', N', off22, rfl, by simp [hys], zs ++ [y], kct_snoc hst, fun z hz => ?_⟩
    rcases List.mem_append.mp hz with h | h
    · exact hz4 z h
    · rw [List.mem_singleton.mp h]; exact hy
  rintro ys nb ⟨rfl, hys, zs, hst, hz4⟩ D3 h3 tk3 F3 N3 off3
  k_steps
  rename_i D4 h4 F4 N4 lt4
  have hy3 : ys.length ≤ 3 := by rw [hys, List.length_take]; exact Nat.min_le_left _ _
  unfold Hold
  refine kmk_add_lit (its := ys.toArray) (by exact F4) (by exact N4) (PySem.IsL.isList (n := ys.length) (by exact (N4 _ (.tail _ (.head _))).1)) (PySem.IsL.isList (n := 0) (by exact (N4 _ (.head _)).1)) rfl ?_ (by simp [sizeLine_eq]; lia)
  intro DT h5 F5 N5 lt5
  obtain ⟨tv, ts, htv, h5l, h8l, hts, N6⟩ : ∃ (tv : List Value) (ts : List Str), StrsAre tv ts ∧ 5 ≤ tv.length ∧ tv.length ≤ 8 ∧ (∀ x ∈ ts, x.length < 1000) ∧ News s₁.heap s₁.heap.objs.size h5 ((DT, listOf tv.toArray 0) :: (s₁.heap.objs.size + 1 + 1 + 1, oc1) :: (s₁.heap.objs.size + 1 + 1, oc2) :: (s₁.heap.objs.size + 1, oc3) :: []) := by
    obtain ⟨five, hf, N5'⟩ : ∃ five : List Value, StrsAre five [Str.ofString "\"b\"", Str.ofString "a\"", Str.ofString "\"a", Str.ofString "\"\"", Str.ofString "b"] ∧ News s₁.heap s₁.heap.objs.size h5 ((DT, listOf (ys ++ five).toArray 0) :: _) := ⟨_, by kct_strs, N5⟩
    have hfl := hf.length
    refine ⟨ys ++ five, _, strs_append hst hf, ?_, ?_, fun x hx => ?_, news_sub N5' fun p hp => ?_⟩
    · simp at hfl ⊢; lia
    · simp at hfl ⊢; lia
    · rcases List.mem_append.mp hx with h | h
      · have := hz4 x h; lia
      · simp only [List.mem_cons, List.not_mem_nil, or_false] at h
        rcases h with rfl | rfl | rfl | rfl | rfl <;> decide
    · rcases List.mem_cons.mp hp with rfl | hp
      · exact .head _
      exact .tail _ (.tail _ (.tail _ (.tail _ hp)))
  have hTc : ∀ p ∈ [(s₁.heap.objs.size + 1 + 1 + 1, oc1), (s₁.heap.objs.size + 1 + 1, oc2), (s₁.heap.objs.size + 1, oc3)], p.1 < DT := fun p hp => lt5 p (.tail _ (.tail _ (.tail _ hp)))
  clear N5 lt5 lt4 off3
  k_steps
  rename_i h6 F6 N6
  unfold Hold
  refine kms_slice_lit (zs := tv) (lo := none) (hi := none) (by exact F6) (by exact N6) (PySem.IsL.isList (n := 0) (by exact (N6 _ (.head _)).1)) .none .none (by simp [kms_pick, kms_lo, kms_hi]) ?_ (by with_unfolding_all rfl) (by intro _; with_unfolding_all rfl) (by simp [sizeLine_eq]; lia)
  intro DR h7 F7 N7 lt7
  k_steps
  unfold Hold
  refine order_c (R := DT) (nR := 0) (rs := tv) (ts := ts) (b := false) K1 (by exact F7) KX (by exact N7) T rfl (by decide) (by decide) (.tail _ (.head _)) htv (by lia) hts ?_
  intro Dl nl h8 tk8 lo ll F8 N8 off8 hst8 hRl
  k_steps
  unfold Hold
  refine order_c (R := DT) (nR := 0) (rs := tv) (ts := ts) (b := true) K1 (by exact F8) KX (by exact N8) T rfl (by decide) (by decide) (.tail _ (.tail _ (.head _))) htv (by lia) hts ?_
  intro Dm nm h9 tk9 mo ml F9 N9 off9 hst9 hRm
  k_steps
  rename_i DU h10 lt10 h11 F11 N11
  have hRl' : Ranked (ltS (kyOf ts)) ts ll := hRl
  have hRm' : Ranked (ltL (kyOf ts)) ts ml := hRm
  have c1 : ∀ p ∈ [(s₁.heap.objs.size + 1 + 1 + 1, oc1), (s₁.heap.objs.size + 1 + 1, oc2), (s₁.heap.objs.size + 1, oc3)], p.1 ≠ DR := fun p hp => Nat.ne_of_lt (lt7 p (.tail _ hp))
  have c2 : ∀ p ∈ [(s₁.heap.objs.size + 1 + 1 + 1, oc1), (s₁.heap.objs.size + 1 + 1, oc2), (s₁.heap.objs.size + 1, oc3)], p.1 ≠ Dl := fun p hp => off8 p (.tail _ (.tail _ hp))
  have c3 : ∀ p ∈ [(s₁.heap.objs.size + 1 + 1 + 1, oc1), (s₁.heap.objs.size + 1 + 1, oc2), (s₁.heap.objs.size + 1, oc3)], p.1 ≠ Dm := fun p hp => off9 p (.tail _ (.tail _ (.tail _ hp)))
  have s12 : s₁.heap.objs.size + 1 ≠ s₁.heap.objs.size + 1 + 1 := (Nat.succ_ne_self _).symm
  have s13 : s₁.heap.objs.size + 1 ≠ s₁.heap.objs.size + 1 + 1 + 1 := Nat.ne_of_lt (Nat.lt_succ_of_lt (Nat.lt_succ_self _))
  have s23 : s₁.heap.objs.size + 1 + 1 ≠ s₁.heap.objs.size + 1 + 1 + 1 := (Nat.succ_ne_self _).symm
  have N12 : News s₁.heap s₁.heap.objs.size h11 ((s₁.heap.objs.size + 1, oc3) :: (s₁.heap.objs.size + 1 + 1, oc2) :: (s₁.heap.objs.size + 1 + 1 + 1, oc1) :: (Dm, listOf mo nm) :: (Dl, listOf lo nl) :: (DR, listOf tv.toArray 0) :: (DT, listOf tv.toArray 0) :: []) :=
    nc (N11 _ (.tail _ (.tail _ (.tail _ (.tail _ (.tail _ (.tail _ (.tail _ (.head _))))))))) (nc (N11 _ (.tail _ (.tail _ (.tail _ (.tail _ (.tail _ (.tail _ (.head _)))))))) (nc (N11 _ (.tail _ (.tail _ (.tail _ (.tail _ (.tail _ (.head _))))))) (nc (N11 _ (.tail _ (.head _))) (nc (N11 _ (.tail _ (.tail _ (.head _)))) (nc (N11 _ (.tail _ (.tail _ (.tail _ (.head _))))) (nc (N11 _ (.tail _ (.tail _ (.tail _ (.tail _ (.head _)))))) ne'))))))
  clear N11 lt10
  refine store_cell rfl rfl rfl (by exact F11) (by exact N12) (oc s12.symm (oc s13.symm (oc (c3 _ (.tail _ (.tail _ (.head _)))).symm (oc (c2 _ (.tail _ (.tail _ (.head _)))).symm (oc (c1 _ (.tail _ (.tail _ (.head _)))).symm (oc (Nat.ne_of_gt (hTc _ (.tail _ (.tail _ (.head _))))) oe)))))) d3 ?_
  intro h12 oR dR F12 N13
  clear N12
  k_steps
  refine store_cell rfl rfl rfl (by exact F12) (by exact news_swap N13) (oc s12 (oc s23.symm (oc (c3 _ (.tail _ (.head _))).symm (oc (c2 _ (.tail _ (.head _))).symm (oc (c1 _ (.tail _ (.head _))).symm (oc (Nat.ne_of_gt (hTc _ (.tail _ (.head _)))) oe)))))) d2 ?_
  intro h13 oL dL F13 N14
  clear N13
  k_steps
  refine store_cell rfl rfl rfl (by exact F13) (by exact p_back3 N14) (oc s23 (oc s13 (oc (c3 _ (.head _)).symm (oc (c2 _ (.head _)).symm (oc (c1 _ (.head _)).symm (oc (Nat.ne_of_gt (hTc _ (.head _))) oe)))))) d1 ?_
  intro h14 oM dM F14 N15
  clear N14
  obtain ⟨led, hM, hDm, hDl, hDR, hDT, N15⟩ : ∃ led : List (Addr × Obj), (s₁.heap.objs.size + 1 + 1 + 1, oM) ∈ led ∧ (Dm, listOf mo nm) ∈ led ∧ (Dl, listOf lo nl) ∈ led ∧ (DR, listOf tv.toArray 0) ∈ led ∧ (DT, listOf tv.toArray 0) ∈ led ∧ News s₁.heap s₁.heap.objs.size h14 ((s₁.heap.objs.size + 1 + 1, oL) :: (s₁.heap.objs.size + 1, oR) :: led) :=
    ⟨_, .head _, (.tail _ (.tail _ (.tail _ (.head _)))), (.tail _ (.tail _ (.tail _ (.tail _ (.head _))))), (.tail _ (.tail _ (.tail _ (.tail _ (.tail _ (.head _)))))), (.tail _ (.tail _ (.tail _ (.tail _ (.tail _ (.tail _ (.head _))))))), nc (N15 _ (.tail _ (.head _))) (nc (N15 _ (.tail _ (.tail _ (.head _)))) N15)⟩
  k_steps
  have hfo3_e : ∃ fo fd, s₁.heap.get? 103 = some fo ∧ fo.data = .func fd := ⟨_, _, KX 103 _ (by k_is), rfl⟩
  have hfo3 := hfo3_e.choose_spec.choose_spec.1
  have hfd3 := hfo3_e.choose_spec.choose_spec.2
  have hfo5_e : ∃ fo fd, s₁.heap.get? 115 = some fo ∧ fo.data = .func fd := ⟨_, _, KX 115 _ (by k_is), rfl⟩
  have hfo5 := hfo5_e.choose_spec.choose_spec.1
  have hfd5 := hfo5_e.choose_spec.choose_spec.2
  unfold Hold
  refine lc_valueF (by exact F14) (cl := []) (by rfl) (by decide) rfl (by decide) ?_
  k_steps
  unfold Hold
  refine wpAny_pyIter_list (PySem.IsL.isList (n := 0) (by exact (N15 _ (.tail _ (.tail _ hDR))).1)) ?_
  refine map_lcat (q := 103) (l := DR) (vs := tv) (nl := 0) rfl rfl rfl rfl (fun _ => rfl) KX (topRead_of T) (by k_is) hfo3 hfd3 (by exact F14.push _) (by exact News.push F14 N15 _) ⟨rfl, rfl⟩ (fun p hp => Nat.ne_of_lt (Heap.lt_size (N15 p hp).1)) (by lia) (.tail _ (.tail _ hDR))
    (keycall K1 KX T rfl (by decide) (by decide) htv hts) ?_
  intro ys1 hys1 D16 h16 tk16 F16 N16 off16
  k_steps
  unfold Hold
  refine lc_valueF (by exact F16) (cl := []) (by rfl) (by decide) rfl (by decide) ?_
  k_steps
  unfold Hold
  refine wpAny_pyIter_list (PySem.IsL.isList (n := 0) (by exact (N16 _ (.tail _ (.tail _ (.tail _ hDT)))).1)) ?_
  refine map_lcat (q := 115) (l := DT) (vs := tv) (nl := 0) rfl rfl rfl rfl (fun _ => rfl) KX (topRead_of T) (by k_is) hfo5 hfd5 (by exact F16.push _) (by exact News.push F16 N16 _) ⟨rfl, rfl⟩ (fun p hp => Nat.ne_of_lt (Heap.lt_size (N16 p hp).1)) (by lia) (.tail _ (.tail _ (.tail _ hDT)))
    (keycall2 K1 KX T rfl (by decide) (by decide) htv hts) ?_
  intro ys2 hys2 D17 h17 tk17 F17 N17 off17
  k_steps
  unfold Hold
  refine ne_same (xs := ys1) (ys := ys2) (zs := ts.map inn) (PySem.IsL.isList (n := ys1.length) (by exact (N17 _ (.tail _ (.head _))).1)) (PySem.IsL.isList (n := ys2.length) (by exact (N17 _ (.head _)).1)) (keys_strs htv hys1) (keys_strs htv hys2) (by show 4 + 3 < cLine; decide) ?_
  k_steps
  unfold Hold
  refine heaped_c (R := DR) (nR := 0) (rs := tv) (ts := ts) K1 (by exact F17) KX (by exact N17) T rfl (by decide) (by decide) (.tail _ (.tail _ (.tail _ (.tail _ hDR)))) htv (by lia) hts ?_
  intro D18 n18 h18 tk18 ho18 hl18 F18 N18 off18 st18 rk18
  have e18 := Ranked.unique swoS rk18 hRl'
  subst e18
  k_steps
  unfold Hold
  refine ne_same (xs := ho18.toList) (ys := lo.toList) (zs := hl18) (PySem.IsL.isList (n := n18) (by exact (N18 _ (.head _)).1)) (PySem.IsL.isList (n := nl) (by exact (N18 _ (.tail _ (.tail _ (.tail _ (.tail _ (.tail _ hDl)))))).1)) st18 hst8 (by show 4 + 3 < cLine; decide) ?_
  have N19 : News s₁.heap s₁.heap.objs.size h18 ((s₁.heap.objs.size + 1 + 1, oL) :: (s₁.heap.objs.size + 1, oR) :: led) := fun p hp => N18 p (.tail _ (.tail _ (.tail _ hp)))
  clear N18 N17 N16 N15 F16 F17 F14 F13 F12 F11
  k_steps
  unfold Hold
  refine lc_assignF (by exact F18) (cl := [(Str.ofString "row", s₁.heap.objs.size + 1), (Str.ofString "most", s₁.heap.objs.size + 1 + 1 + 1), (Str.ofString "least", s₁.heap.objs.size + 1 + 1)]) rfl (by rfl) (by rfl) (by decide) rfl (by decide) rfl rfl ?_
  k_steps
  unfold Hold
  refine at_len (by exact N19) (.tail _ (.tail _ hDT)) (by lia) ?_
  k_steps
  rename_i h20 _ _ _ _ hRg F20 N20 up20
  have hfo2_e : ∃ fo fd, s₁.heap.get? 132 = some fo ∧ fo.data = .func fd := ⟨_, _, KX 132 _ (by k_is), rfl⟩
  have hfo2 := hfo2_e.choose_spec.choose_spec.1
  have hfd2 := hfo2_e.choose_spec.choose_spec.2
  unfold Hold
  refine wpAny_pyIter_range hRg (small_m1 (by lia)) ?_
  rw [rsize_m1]
  refine range_lcat (x0 := -1) (cnt := tv.length + 3) rfl (by exact F20.push _) (by exact News.push F20 N20 _) (fun p hp => Nat.ne_of_lt (Heap.lt_size (N20 p hp).1)) (by lia)
    (fun ys nb k => nb = _ ∧ ys = []) ⟨rfl, rfl⟩ (fun ys nb k h => by rw [h.2]; exact Nat.zero_le _) ?_ ?_
  · rintro k tq hkc ys nb C oC D m9 h22 tk22 io ⟨rfl, rfl⟩ hoC F22 N23 hCD hIC hID off22
    refine asg1 rfl rfl F22 (by exact N23) hoC (off_c hCD hIC off22) ?_
    intro h24 oC4 F24 N24 hoC4
    refine wpAny_tests_one (wpAny_isTrue_Not (isTrue_plain (Call_ (cname_g rfl rfl rfl (by exact F24) KX (topRead_of T) (by k_is) ?_))))
    refine callWith_def hfd2 (args_cons (cname_c rfl rfl rfl N24 (.tail _ (.tail _ (.tail _ (.tail _ (.head _))))) dR (args_cons (cname_c rfl rfl rfl N24 (.tail _ (.tail _ (.tail _ (.head _)))) dL (args_cons (cname_c rfl rfl rfl N24 (.tail _ (.tail _ (.tail _ (.tail _ (.tail _ hM))))) dM (args_cons (cname_l rfl rfl (by exact N24) (.head _) hoC4 (by rw [if_pos rfl]) (args_nil ⟨F24.keep _ _ hfo2, ?_⟩)))))))))
    refine right_c (R := DR) (Dl := Dl) (Dm := Dm) (rs := tv) (lv := lo.toList) (mv := mo.toList) (nR := 0) (nl := nl) (nm := nm) K1 (by exact F24) KX (by exact N24) T rfl (by decide) (by decide) (.tail _ (.tail _ (.tail _ (.tail _ (.tail _ hDR))))) (.tail _ (.tail _ (.tail _ (.tail _ (.tail _ hDl))))) (.tail _ (.tail _ (.tail _ (.tail _ (.tail _ hDm))))) htv hst8 hst9 hRl' hRm' (by lia) hts (.inr (by lia)) ⟨by lia, by lia⟩ KX T ?_
    intro h' tk' F' N'
    refine wpAny_truthy_bool ?_
    refine cif_neg Bool.false_ne_true ?_
    exact ⟨h', tk', oC4, _, _, rfl, hoC4, F', N', off22, rfl, rfl⟩
  rintro _ _ ⟨rfl, rfl⟩ D25 h25 tk25 F25 N25 off25
  replace F25 : Fr s₁.heap s₁.heap.objs.size h25 _ := F25
  replace N25 : News s₁.heap s₁.heap.objs.size h25 _ := N25
  clear F20 N20
  k_steps
  unfold Hold
  refine lc_assignF (by exact F25) (cl := []) rfl (by rfl) (by rfl) (by decide) rfl (by decide) rfl rfl ?_
  k_steps
  rename_i h30 _ _ _ _ hRg3 F30 N30 up30
  unfold Hold
  refine wpAny_pyIter_range hRg3 (by decide) ?_
  rw [show Builtin.Range.rangeSize (-1) 3 1 = ((4 : Nat) : Int) by decide]
  refine range_lcat (x0 := -1) (cnt := 4) rfl (by exact F30.push _) (by exact News.push F30 N30 _) (fun p hp => Nat.ne_of_lt (Heap.lt_size (N30 p hp).1)) (by lia)
    (fun ys nb k => nb = _ ∧ ys = []) ⟨rfl, rfl⟩ (fun ys nb k h => by rw [h.2]; exact Nat.zero_le _) ?_ ?_
  · rintro k tq hkc ys nb C oC D m9 h22 tk22 io ⟨rfl, rfl⟩ hoC F22 N23 hCD hIC hID off22
    refine asg1 rfl rfl F22 (by exact N23) hoC (off_c hCD hIC off22) ?_
    intro h24 oC4 F24 N24 hoC4
    have Fa := F24.push (listOf #[] 0)
    have Na := News.push F24 N24 (listOf #[] 0)
    have Fb := Fa.push (listOf #[] 0)
    have Nb := News.push Fa Na (listOf #[] 0)
    have Fc := Fb.push (listOf #[] 0)
    have Nc := News.push Fb Nb (listOf #[] 0)
    refine wpAny_tests_one (wpAny_isTrue_Not (isTrue_plain (Call_ (cname_g rfl rfl rfl (by exact F24) KX (topRead_of T) (by k_is) ?_))))
    refine callWith_def hfd2 (args_cons (List_ (args_nil (wpAny_newList ?_))))
    refine args_cons (List_ (args_nil (wpAny_newList ?_)))
    refine args_cons (List_ (args_nil (wpAny_newList ?_)))
    refine args_cons (cname_l rfl rfl (by exact Nc) (.tail _ (.tail _ (.tail _ (.head _)))) hoC4 (by rw [if_pos rfl]) (args_nil ⟨Fc.keep _ _ hfo2, ?_⟩))
    refine right_c (rs := []) (lv := []) (mv := []) (ts := []) (ls := []) (ms := []) (nR := 0) (nl := 0) (nm := 0) K1 (by exact Fc) KX (by exact Nc) T rfl (by decide) (by decide) (.tail _ (.tail _ (.head _))) (.tail _ (.head _)) (.head _) .nil .nil .nil ⟨rfl, fun k hk => absurd hk (Nat.not_lt_zero _)⟩ ⟨rfl, fun k hk => absurd hk (Nat.not_lt_zero _)⟩ (by decide) (fun x hx => (nomatch hx)) (.inl rfl) ⟨by lia, by lia⟩ KX T ?_
    intro h' tk' F' N'
    refine wpAny_truthy_bool ?_
    refine cif_neg Bool.false_ne_true ?_
    exact ⟨h', tk', oC4, _, _, rfl, hoC4, F', fun p hp => N' p (.tail _ (.tail _ (.tail _ hp))), off22, rfl, rfl⟩
  rintro _ _ ⟨rfl, rfl⟩ D35 h35 tk35 F35 N35 off35
  replace F35 : Fr s₁.heap s₁.heap.objs.size h35 _ := F35
  replace N35 : News s₁.heap s₁.heap.objs.size h35 _ := N35
  clear F30 N30
  k_steps
  rename_i D36 h36 F36 N36 lt36
  unfold Hold
  refine eq_same (xs := []) (ys := []) (zs := []) (PySem.IsL.isList (n := 0) (by exact (N36 _ (.tail _ (.tail _ (.head _)))).1)) (PySem.IsL.isList (n := 0) (by exact (N36 _ (.head _)).1)) .nil .nil (by show 4 + 3 < cLine; decide) ?_
  k_steps
  rename_i D37 h37 F37 N37 lt37
  unfold Hold
  refine eq_same (xs := []) (ys := []) (zs := []) (PySem.IsL.isList (n := 0) (by exact (N37 _ (.tail _ (.tail _ (.head _)))).1)) (PySem.IsL.isList (n := 0) (by exact (N37 _ (.head _)).1)) .nil .nil (by show 4 + 3 < cLine; decide) ?_
  k_steps
  unfold Hold
  refine eq_same (xs := tv) (ys := tv) (zs := ts) (PySem.IsL.isList (n := 0) (by exact (N37 _ (.tail _ (.tail _ (.tail _ (.tail _ (.tail _ (.tail _ hDR))))))).1)) (PySem.IsL.isList (n := 0) (by exact (N37 _ (.tail _ (.tail _ (.tail _ (.tail _ (.tail _ (.tail _ hDT))))))).1)) htv htv (by show 4 + 3 < cLine; decide) ?_
  k_steps)
end Mine
end

set_option maxRecDepth 100000 in
set_option maxHeartbeats 8000000 in
theorem PySem.Challenge.cw_nb0235_01_holds : PySem.Challenge.rw_nb0235_01.Holds :=
  Mine.law_holds
