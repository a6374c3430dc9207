import JvmDerived
import JvmDerived.Pilot.@@N@@Statement
import JvmDerived.Pilot.@@N@@Code
set_option linter.unusedVariables false
set_option linter.unusedSimpArgs false
@@BLOCK:HandJ.lean.txt@@
@@BLOCK:HandW.lean.txt@@
@@BLOCK:HandBits.lean.txt@@
@@BLOCK:SymRun.lean.txt@@
@@BLOCK:RowBasics.lean.txt@@
@@BLOCK:Bridge.lean.txt@@
@@BLOCK:SymKit.lean.txt@@
@@BLOCK:SymWays.lean.txt@@
@@BLOCK:NumsL.lean.txt@@
@@BLOCK:Masks.lean.txt@@
@@BLOCK:MathCallees.lean.txt@@
namespace Jvm.Pilot.@@N@@
open Jvm Jvm.ClassFile Sem Op Jvm.Sym Jvm.Pilot.@@N@@.Jvm.D

/-! own 1: arguments by their kinds -/
def own_KL : List VKind → List Value → Prop
  | [], [] => True
  | k :: ks, v :: vs => k.ok v = true ∧ own_KL ks vs
  | _, _ => False
def own_Kinds (ks : List VKind) (A : Array Value) : Prop := own_KL ks A.toList
theorem own_KL_get : ∀ {ks : List VKind} {vs : List Value}, own_KL ks vs → ∀ {i : Nat} {k : VKind}, ks[i]? = some k → ∃ v, vs[i]? = some v ∧ k.ok v = true
  | [], [], _, i, k, h => by simp at h
  | k0 :: ks, v0 :: vs, hh, 0, k, h => by
    simp at h; subst h; exact ⟨v0, by simp, hh.1⟩
  | k0 :: ks, v0 :: vs, hh, i + 1, k, h => by
    simp at h; obtain ⟨v, h1, h2⟩ := own_KL_get hh.2 h; exact ⟨v, by simpa using h1, h2⟩
  | [], _ :: _, hh, _, _, _ => hh.elim
  | _ :: _, [], hh, _, _, _ => hh.elim
theorem own_KL_len : ∀ {ks : List VKind} {vs : List Value}, own_KL ks vs → vs.length = ks.length
  | [], [], _ => rfl
  | k0 :: ks, v0 :: vs, hh => by simp [own_KL_len hh.2]
  | [], _ :: _, hh => hh.elim
  | _ :: _, [], hh => hh.elim
theorem own_Kinds.get {ks : List VKind} {A : Array Value} (h : own_Kinds ks A) {i : Nat} {k : VKind} (hk : ks[i]? = some k) : ∃ v, A[i]? = some v ∧ k.ok v = true := by
  obtain ⟨v, h1, h2⟩ := own_KL_get h hk
  exact ⟨v, by rwa [Array.getElem?_toList] at h1, h2⟩
theorem own_Kinds.size {ks : List VKind} {A : Array Value} (h : own_Kinds ks A) : A.size = ks.length := by
  have := own_KL_len h
  simpa using this
theorem own_KL_sorts {A : Array Value} {s : State} : ∀ (ks : List VKind) (i : Nat) (vs : List Value), (∀ j, A[i + j]? = vs[j]?) → vs.length = ks.length → (∀ q ∈ Sym.sorts i ks, q.before A s = true) → own_KL ks vs
  | [], _, [], _, _, _ => trivial
  | [], _, _ :: _, _, h, _ => by simp at h
  | _ :: _, _, [], _, h, _ => by simp at h
  | k :: ks, i, v :: vs, hA, hl, hq => by
    have h0 := hq (isK k (.arg i)) (by simp [Sym.sorts])
    obtain ⟨w, e, ok⟩ := isK_spec h0
    have e0 := hA 0
    simp only [Nat.add_zero, List.getElem?_cons_zero] at e0
    have e1 : A[i]? = some w := e
    rw [e0] at e1
    cases e1
    refine ⟨ok, own_KL_sorts ks (i + 1) vs (fun j => ?_) (by simpa using hl) (fun q h => hq q (by simp [Sym.sorts]; exact Or.inr h))⟩
    have := hA (j + 1)
    rw [List.getElem?_cons_succ] at this
    rw [← this]; congr 1; omega
theorem own_Kinds_of {A : Array Value} {s : State} {ks : List VKind} (hn : A.size = ks.length) (hq : ∀ q ∈ Sym.sorts 0 ks, q.before A s = true) : own_Kinds ks A :=
  own_KL_sorts ks 0 A.toList (fun j => by simp) (by simpa using hn) hq
theorem own_Kinds.sorts {A : Array Value} {s : State} : ∀ {ks : List VKind} {vs : List Value} (i : Nat), (∀ j, A[i + j]? = vs[j]?) → own_KL ks vs → ∀ q ∈ Sym.sorts i ks, q.before A s = true
  | [], [], _, _, _, q, hq => by cases hq
  | [], _ :: _, _, _, hh, _, _ => hh.elim
  | _ :: _, [], _, _, hh, _, _ => hh.elim
  | k :: ks, v :: vs, i, hA, hh, q, hq => by
    have e0 := hA 0
    simp only [Nat.add_zero, List.getElem?_cons_zero] at e0
    rcases List.mem_cons.mp hq with rfl | hq
    · cases k <;> cases v <;> first | (have := hh.1; simp [VKind.ok] at this; done) | simp [isK, Cond.before, Cond.holds, Cond.value, Term.eval, e0]
    · refine own_Kinds.sorts (i + 1) (fun j => ?_) hh.2 q hq
      have := hA (j + 1)
      rw [List.getElem?_cons_succ] at this
      rw [← this]; congr 1; omega
theorem own_int {v : Value} (h : VKind.int.ok v = true) : ∃ a : Int32, v = .int a := by cases v <;> simp [VKind.ok] at h <;> exact ⟨_, rfl⟩
theorem own_long {v : Value} (h : VKind.long.ok v = true) : ∃ a : Int64, v = .long a := by cases v <;> simp [VKind.ok] at h <;> exact ⟨_, rfl⟩
theorem own_k1 {k0 : VKind} {A : Array Value} (h : own_Kinds [k0] A) : ∃ v0, A = #[v0] ∧ k0.ok v0 = true := by
  obtain ⟨L⟩ := A
  match L, h with
  | [v0], h => exact ⟨v0, rfl, h.1⟩
theorem own_k2 {k0 k1 : VKind} {A : Array Value} (h : own_Kinds [k0, k1] A) : ∃ v0 v1, A = #[v0, v1] ∧ k0.ok v0 = true ∧ k1.ok v1 = true := by
  obtain ⟨L⟩ := A
  match L, h with
  | [v0, v1], h => exact ⟨v0, v1, rfl, h.1, h.2.1⟩
theorem own_k3 {k0 k1 k2 : VKind} {A : Array Value} (h : own_Kinds [k0, k1, k2] A) : ∃ v0 v1 v2, A = #[v0, v1, v2] ∧ k0.ok v0 = true ∧ k1.ok v1 = true ∧ k2.ok v2 = true := by
  obtain ⟨L⟩ := A
  match L, h with
  | [v0, v1, v2], h => exact ⟨v0, v1, v2, rfl, h.1, h.2.1, h.2.2.1⟩
theorem own_k4 {k0 k1 k2 k3 : VKind} {A : Array Value} (h : own_Kinds [k0, k1, k2, k3] A) : ∃ v0 v1 v2 v3, A = #[v0, v1, v2, v3] ∧ k0.ok v0 = true ∧ k1.ok v1 = true ∧ k2.ok v2 = true ∧ k3.ok v3 = true := by
  obtain ⟨L⟩ := A
  match L, h with
  | [v0, v1, v2, v3], h => exact ⟨v0, v1, v2, v3, rfl, h.1, h.2.1, h.2.2.1, h.2.2.2.1⟩

theorem own_k5 {k0 k1 k2 k3 k4 : VKind} {A : Array Value} (h : own_Kinds [k0, k1, k2, k3, k4] A) : ∃ v0 v1 v2 v3 v4, A = #[v0, v1, v2, v3, v4] ∧ k0.ok v0 = true ∧ k1.ok v1 = true ∧ k2.ok v2 = true ∧ k3.ok v3 = true ∧ k4.ok v4 = true := by
  obtain ⟨L⟩ := A
  match L, h with
  | [v0, v1, v2, v3, v4], h => exact ⟨v0, v1, v2, v3, v4, rfl, h.1, h.2.1, h.2.2.1, h.2.2.2.1, h.2.2.2.2.1⟩
theorem own_k6 {k0 k1 k2 k3 k4 k5 : VKind} {A : Array Value} (h : own_Kinds [k0, k1, k2, k3, k4, k5] A) : ∃ v0 v1 v2 v3 v4 v5, A = #[v0, v1, v2, v3, v4, v5] ∧ k0.ok v0 = true ∧ k1.ok v1 = true ∧ k2.ok v2 = true ∧ k3.ok v3 = true ∧ k4.ok v4 = true ∧ k5.ok v5 = true := by
  obtain ⟨L⟩ := A
  match L, h with
  | [v0, v1, v2, v3, v4, v5], h => exact ⟨v0, v1, v2, v3, v4, v5, rfl, h.1, h.2.1, h.2.2.1, h.2.2.2.1, h.2.2.2.2.1, h.2.2.2.2.2.1⟩

/-! own 2: a term's kind, read off its shape -/
def own_ty2 : Binary → Option VKind → Option VKind → Option VKind
  | .iand, some .int, some .int => some .int
  | .ior, some .int, some .int => some .int
  | .ixor, some .int, some .int => some .int
  | .ishl, some .int, some .int => some .int
  | .ishr, some .int, some .int => some .int
  | .iushr, some .int, some .int => some .int
  | .ladd, some .long, some .long => some .long
  | .lsub, some .long, some .long => some .long
  | .lmul, some .long, some .long => some .long
  | .land, some .long, some .long => some .long
  | .lor, some .long, some .long => some .long
  | .lxor, some .long, some .long => some .long
  | .lcmp, some .long, some .long => some .int
  | .lshl, some .long, some .int => some .long
  | .lshr, some .long, some .int => some .long
  | .lushr, some .long, some .int => some .long
  | _, _, _ => none
def own_ty1 : Unary → Option VKind → Option VKind
  | .ineg, some .int => some .int
  | .i2b, some .int => some .int
  | .i2c, some .int => some .int
  | .i2s, some .int => some .int
  | .i2l, some .int => some .long
  | .l2i, some .long => some .int
  | .lneg, some .long => some .long
  | _, _ => none
def own_ii : Option VKind → Option VKind → Option VKind
  | some .int, some .int => some .int
  | _, _ => none
def own_ty (ks : List VKind) : Term → Option VKind
  | .arg i => ks[i]?
  | .int _ => some .int
  | .long _ => some .long
  | .add a b => own_ii (own_ty ks a) (own_ty ks b)
  | .sub a b => own_ii (own_ty ks a) (own_ty ks b)
  | .mul a b => own_ii (own_ty ks a) (own_ty ks b)
  | .op2 f a b => own_ty2 f (own_ty ks a) (own_ty ks b)
  | .op1 f a => own_ty1 f (own_ty ks a)
  | .old t => own_ty ks t
  | _ => none
theorem own_ty2_sound {f : Binary} {a b : Option VKind} {k : VKind} (h : own_ty2 f a b = some k) : ∃ ka kb, a = some ka ∧ b = some kb ∧ ∀ x y, ka.ok x = true → kb.ok y = true → ∃ z, f.apply x y = some z ∧ k.ok z = true := by
  unfold own_ty2 at h
  split at h <;> first
    | (cases h; refine ⟨_, _, rfl, rfl, fun x y hx hy => ?_⟩; cases x <;> simp [VKind.ok] at hx <;> cases y <;> simp [VKind.ok] at hy <;> exact ⟨_, rfl, rfl⟩)
    | cases h
theorem own_ty1_sound {f : Unary} {a : Option VKind} {k : VKind} (h : own_ty1 f a = some k) : ∃ ka, a = some ka ∧ ∀ x, ka.ok x = true → ∃ z, f.apply x = some z ∧ k.ok z = true := by
  unfold own_ty1 at h
  split at h <;> first
    | (cases h; refine ⟨_, rfl, fun x hx => ?_⟩; cases x <;> simp [VKind.ok] at hx <;> exact ⟨_, rfl, rfl⟩)
    | cases h
theorem own_ii_sound {a b : Option VKind} {k : VKind} (h : own_ii a b = some k) : k = .int ∧ a = some .int ∧ b = some .int := by
  unfold own_ii at h
  split at h
  · cases h; exact ⟨rfl, rfl, rfl⟩
  · cases h
theorem own_ty_sound {ks : List VKind} {A : Array Value} {s : State} (hA : own_Kinds ks A) : ∀ (t : Term) {k : VKind}, own_ty ks t = some k → ∃ v, t.eval A s none [] s = some v ∧ k.ok v = true
  | .arg i, k, h => hA.get h
  | .int v, k, h => by cases h; exact ⟨_, rfl, rfl⟩
  | .long v, k, h => by cases h; exact ⟨_, rfl, rfl⟩
  | .add a b, k, h => by
    obtain ⟨rfl, ha, hb⟩ := own_ii_sound h
    obtain ⟨x, ex, hx⟩ := own_ty_sound (s := s) hA a ha
    obtain ⟨y, ey, hy⟩ := own_ty_sound (s := s) hA b hb
    obtain ⟨x, rfl⟩ := own_int hx
    obtain ⟨y, rfl⟩ := own_int hy
    exact ⟨.int (x + y), by simp [Term.eval, ex, ey], rfl⟩
  | .sub a b, k, h => by
    obtain ⟨rfl, ha, hb⟩ := own_ii_sound h
    obtain ⟨x, ex, hx⟩ := own_ty_sound (s := s) hA a ha
    obtain ⟨y, ey, hy⟩ := own_ty_sound (s := s) hA b hb
    obtain ⟨x, rfl⟩ := own_int hx
    obtain ⟨y, rfl⟩ := own_int hy
    exact ⟨.int (x - y), by simp [Term.eval, ex, ey], rfl⟩
  | .mul a b, k, h => by
    obtain ⟨rfl, ha, hb⟩ := own_ii_sound h
    obtain ⟨x, ex, hx⟩ := own_ty_sound (s := s) hA a ha
    obtain ⟨y, ey, hy⟩ := own_ty_sound (s := s) hA b hb
    obtain ⟨x, rfl⟩ := own_int hx
    obtain ⟨y, rfl⟩ := own_int hy
    exact ⟨.int (x * y), by simp [Term.eval, ex, ey], rfl⟩
  | .op2 f a b, k, h => by
    obtain ⟨ka, kb, ha, hb, hf⟩ := own_ty2_sound (show own_ty2 f (own_ty ks a) (own_ty ks b) = some k from h)
    obtain ⟨x, ex, hx⟩ := own_ty_sound (s := s) hA a ha
    obtain ⟨y, ey, hy⟩ := own_ty_sound (s := s) hA b hb
    obtain ⟨z, ez, hz⟩ := hf x y hx hy
    exact ⟨z, by simp [Term.eval, ex, ey, ez], hz⟩
  | .op1 f a, k, h => by
    obtain ⟨ka, ha, hf⟩ := own_ty1_sound (show own_ty1 f (own_ty ks a) = some k from h)
    obtain ⟨x, ex, hx⟩ := own_ty_sound (s := s) hA a ha
    obtain ⟨z, ez, hz⟩ := hf x hx
    exact ⟨z, by simp [Term.eval, ex, ez], hz⟩
  | .old t, k, h => by
    obtain ⟨x, ex, hx⟩ := own_ty_sound (s := s) hA t (show own_ty ks t = some k from h)
    exact ⟨x, by simpa [Term.eval] using ex, hx⟩
  | .null, _, h => by cases h
  | .index _, _, h => by cases h
  | .field _ _ _ _, _, h => by cases h
  | .static _ _ _, _, h => by cases h
  | .string _ _, _, h => by cases h
  | .mirror _, _, h => by cases h
  | .length _, _, h => by cases h
  | .elem _ _, _, h => by cases h
  | .div _ _, _, h => by cases h
  | .rem _ _, _, h => by cases h
  | .sum _, _, h => by cases h
  | .result, _, h => by cases h
  | .thrown, _, h => by cases h

/-! own 3: the needs of a walk, paid by one check: each stands under guards that are worth something whatever way they go -/
def own_num (ks : List VKind) (a b : Term) : Bool := (own_ty ks a == some .int && own_ty ks b == some .int) || (own_ty ks a == some .long && own_ty ks b == some .long)
def own_dfn (ks : List VKind) (D : List Cond) : Cond → Bool
  | .not c => own_dfn ks D c
  | .eq a b => D.contains (.eq a b) || own_num ks a b
  | .lt a b => D.contains (.lt a b) || own_num ks a b
  | .le a b => D.contains (.le a b) || own_num ks a b
  | .and a b => own_dfn ks D a && own_dfn ks D b
  | .or a b => own_dfn ks D a && own_dfn ks D b
  | .tt => true
  | _ => false
def own_chk (ks : List VKind) (T D : List Cond) : Cond → Bool
  | .tt => true
  | .and a b => T.contains (.and a b) || (own_chk ks T D a && own_chk ks T D b)
  | .or a b => T.contains (.or a b) || (own_dfn ks D a && own_chk ks T D b)
  | .isInt t => T.contains (.isInt t) || own_ty ks t == some .int
  | .isLong t => T.contains (.isLong t) || own_ty ks t == some .long
  | c => T.contains c
theorem own_num_sound {ks : List VKind} {A : Array Value} {s : State} (hA : own_Kinds ks A) {a b : Term} (h : own_num ks a b = true) :
    (∃ x y : Int32, a.eval A s none [] s = some (.int x) ∧ b.eval A s none [] s = some (.int y)) ∨ (∃ x y : Int64, a.eval A s none [] s = some (.long x) ∧ b.eval A s none [] s = some (.long y)) := by
  simp only [own_num, Bool.or_eq_true, Bool.and_eq_true, beq_iff_eq] at h
  rcases h with ⟨ha, hb⟩ | ⟨ha, hb⟩
  · obtain ⟨v, ev, hv⟩ := own_ty_sound (s := s) hA a ha
    obtain ⟨w, ew, hw⟩ := own_ty_sound (s := s) hA b hb
    obtain ⟨x, rfl⟩ := own_int hv
    obtain ⟨y, rfl⟩ := own_int hw
    exact Or.inl ⟨x, y, ev, ew⟩
  · obtain ⟨v, ev, hv⟩ := own_ty_sound (s := s) hA a ha
    obtain ⟨w, ew, hw⟩ := own_ty_sound (s := s) hA b hb
    obtain ⟨x, rfl⟩ := own_long hv
    obtain ⟨y, rfl⟩ := own_long hw
    exact Or.inr ⟨x, y, ev, ew⟩
theorem own_dfn_sound {ks : List VKind} {D : List Cond} {A : Array Value} {s : State} (hA : own_Kinds ks A) (hD : ∀ c ∈ D, ∃ b, c.value A s none s [] = some b) : ∀ (c : Cond), own_dfn ks D c = true → ∃ b, c.value A s none s [] = some b := by
  intro c
  induction c with
  | tt => intro _; exact ⟨true, rfl⟩
  | not c ih => intro h; obtain ⟨b, e⟩ := ih h; exact ⟨!b, by simp [Cond.value, e]⟩
  | and a b iha ihb =>
    intro h
    simp only [own_dfn, Bool.and_eq_true] at h
    obtain ⟨x, ex⟩ := iha h.1
    obtain ⟨y, ey⟩ := ihb h.2
    cases x
    · exact ⟨false, by simp [Cond.value, ex]⟩
    · exact ⟨y, by simp [Cond.value, ex, ey]⟩
  | or a b iha ihb =>
    intro h
    simp only [own_dfn, Bool.and_eq_true] at h
    obtain ⟨x, ex⟩ := iha h.1
    obtain ⟨y, ey⟩ := ihb h.2
    cases x
    · exact ⟨y, by simp [Cond.value, ex, ey]⟩
    · exact ⟨true, by simp [Cond.value, ex]⟩
  | eq a b =>
    intro h
    simp only [own_dfn, Bool.or_eq_true] at h
    rcases h with h | h
    · exact hD _ (List.contains_iff_mem.mp h)
    · rcases own_num_sound (s := s) hA h with ⟨x, y, e1, e2⟩ | ⟨x, y, e1, e2⟩ <;> simp only [Cond.value, e1, e2] <;> exact ⟨_, rfl⟩
  | lt a b =>
    intro h
    simp only [own_dfn, Bool.or_eq_true] at h
    rcases h with h | h
    · exact hD _ (List.contains_iff_mem.mp h)
    · rcases own_num_sound (s := s) hA h with ⟨x, y, e1, e2⟩ | ⟨x, y, e1, e2⟩ <;> simp only [Cond.value, e1, e2] <;> exact ⟨_, rfl⟩
  | le a b =>
    intro h
    simp only [own_dfn, Bool.or_eq_true] at h
    rcases h with h | h
    · exact hD _ (List.contains_iff_mem.mp h)
    · rcases own_num_sound (s := s) hA h with ⟨x, y, e1, e2⟩ | ⟨x, y, e1, e2⟩ <;> simp only [Cond.value, e1, e2] <;> exact ⟨_, rfl⟩
  | _ => intro h; simp [own_dfn] at h
theorem own_chk_sound {ks : List VKind} {T D : List Cond} {A : Array Value} {s : State} (hA : own_Kinds ks A) (hT : ∀ c ∈ T, c.value A s none s [] = some true) (hD : ∀ c ∈ D, ∃ b, c.value A s none s [] = some b) :
    ∀ (c : Cond), own_chk ks T D c = true → c.value A s none s [] = some true := by
  intro c
  induction c with
  | tt => intro _; rfl
  | and a b iha ihb =>
    intro h
    simp only [own_chk, Bool.or_eq_true, Bool.and_eq_true] at h
    rcases h with h | h
    · exact hT _ (List.contains_iff_mem.mp h)
    · simp [Cond.value, iha h.1, ihb h.2]
  | or a b iha ihb =>
    intro h
    simp only [own_chk, Bool.or_eq_true, Bool.and_eq_true] at h
    rcases h with h | h
    · exact hT _ (List.contains_iff_mem.mp h)
    · obtain ⟨x, ex⟩ := own_dfn_sound (s := s) hA hD a h.1
      cases x
      · simp [Cond.value, ex, ihb h.2]
      · simp [Cond.value, ex]
  | isInt t =>
    intro h
    simp only [own_chk, Bool.or_eq_true, beq_iff_eq] at h
    rcases h with h | h
    · exact hT _ (List.contains_iff_mem.mp h)
    · obtain ⟨v, ev, hv⟩ := own_ty_sound (s := s) hA t h
      obtain ⟨x, rfl⟩ := own_int hv
      simp [Cond.value, ev]
  | isLong t =>
    intro h
    simp only [own_chk, Bool.or_eq_true, beq_iff_eq] at h
    rcases h with h | h
    · exact hT _ (List.contains_iff_mem.mp h)
    · obtain ⟨v, ev, hv⟩ := own_ty_sound (s := s) hA t h
      obtain ⟨x, rfl⟩ := own_long hv
      simp [Cond.value, ev]
  | _ =>
    intro h
    simp only [own_chk] at h
    exact hT _ (List.contains_iff_mem.mp h)

/-! own 4: what a guard is worth, as a proposition on plain integers; a tree followed by it -/
def own_Is (A : Array Value) (s : State) (G : Cond) (P : Prop) : Prop := (P → G.value A s none s [] = some true) ∧ (¬ P → G.value A s none s [] = some false)
section
variable {A : Array Value} {s : State} {G : Cond} {P : Prop} {ta tb : Term} {a b : STree} {w : Value} {X Y : Int}
theorem own_Is.dfn (h : own_Is A s G P) : ∃ b, G.value A s none s [] = some b := by
  by_cases p : P
  · exact ⟨_, h.1 p⟩
  · exact ⟨_, h.2 p⟩
theorem own_fork (h : own_Is A s G P) (ha : P → Kit.valueOf A s a = some w) (hb : ¬ P → Kit.valueOf A s b = some w) : Kit.valueOf A s (.fork G a b) = some w := by
  by_cases p : P
  · simp only [Kit.valueOf, h.1 p]; exact ha p
  · simp only [Kit.valueOf, h.2 p]; exact hb p
theorem own_not (h : own_Is A s G P) : own_Is A s (.not G) (¬ P) :=
  ⟨fun p => by simp [Cond.value, h.2 p], fun p => by simp [Cond.value, h.1 (Classical.not_not.mp p)]⟩
theorem own_of_decide {Q : Prop} [Decidable Q] (h : G.value A s none s [] = some (decide Q)) (hq : Q ↔ P) : own_Is A s G P :=
  ⟨fun p => by rw [h, decide_eq_true (hq.mpr p)], fun p => by rw [h, decide_eq_false (fun q => p (hq.mp q))]⟩
theorem own_lt_i {x y : Int32} (ha : ta.eval A s none [] s = some (.int x)) (hb : tb.eval A s none [] s = some (.int y)) (hX : x.toInt = X) (hY : y.toInt = Y) : own_Is A s (.lt ta tb) (X < Y) :=
  own_of_decide (Q := x < y) (by simp only [Cond.value, ha, hb]) (by rw [Int32.lt_iff_toInt_lt, hX, hY])
theorem own_le_i {x y : Int32} (ha : ta.eval A s none [] s = some (.int x)) (hb : tb.eval A s none [] s = some (.int y)) (hX : x.toInt = X) (hY : y.toInt = Y) : own_Is A s (.le ta tb) (X ≤ Y) :=
  own_of_decide (Q := x ≤ y) (by simp only [Cond.value, ha, hb]) (by rw [Int32.le_iff_toInt_le, hX, hY])
theorem own_eq_i {x y : Int32} (ha : ta.eval A s none [] s = some (.int x)) (hb : tb.eval A s none [] s = some (.int y)) (hX : x.toInt = X) (hY : y.toInt = Y) : own_Is A s (.eq ta tb) (X = Y) :=
  own_of_decide (Q := x = y) (by simp only [Cond.value, ha, hb]) (by rw [← Int32.toInt_inj, hX, hY])
theorem own_lcmp_eval {x y : Int64} (ha : ta.eval A s none [] s = some (.long x)) (hb : tb.eval A s none [] s = some (.long y)) : (Term.old (.op2 .lcmp ta tb)).eval A s none [] s = some (.int (if x > y then 1 else if x == y then 0 else -1)) := by
  simp only [Term.eval, ha, hb]; rfl
theorem own_lcmp_cases (x y : Int64) : (y.toInt < x.toInt ∧ (if x > y then (1 : Int32) else if x == y then 0 else -1) = 1) ∨ (x.toInt = y.toInt ∧ (if x > y then (1 : Int32) else if x == y then 0 else -1) = 0) ∨ (x.toInt < y.toInt ∧ (if x > y then (1 : Int32) else if x == y then 0 else -1) = -1) := by
  by_cases h : y < x
  · exact Or.inl ⟨Int64.lt_iff_toInt_lt.mp h, by simp [h]⟩
  · by_cases h2 : x = y
    · exact Or.inr (Or.inl ⟨by rw [h2], by subst h2; simp [Int64.lt_irrefl]⟩)
    · refine Or.inr (Or.inr ⟨?_, by simp [h, h2]⟩)
      rw [Int64.lt_iff_toInt_lt] at h
      rw [← Int64.toInt_inj] at h2
      omega
theorem own_lcmp_lt {x y : Int64} (ha : ta.eval A s none [] s = some (.long x)) (hb : tb.eval A s none [] s = some (.long y)) (hX : x.toInt = X) (hY : y.toInt = Y) : own_Is A s (.lt (.old (.op2 .lcmp ta tb)) (.int 0)) (X < Y) :=
  own_of_decide (Cond.lt_ints (own_lcmp_eval ha hb) rfl) (by subst hX hY; rcases own_lcmp_cases x y with ⟨h, e⟩ | ⟨h, e⟩ | ⟨h, e⟩ <;> rw [e] <;> simp <;> omega)
theorem own_lcmp_gt {x y : Int64} (ha : ta.eval A s none [] s = some (.long x)) (hb : tb.eval A s none [] s = some (.long y)) (hX : x.toInt = X) (hY : y.toInt = Y) : own_Is A s (.lt (.int 0) (.old (.op2 .lcmp ta tb))) (Y < X) :=
  own_of_decide (Cond.lt_ints rfl (own_lcmp_eval ha hb)) (by subst hX hY; rcases own_lcmp_cases x y with ⟨h, e⟩ | ⟨h, e⟩ | ⟨h, e⟩ <;> rw [e] <;> simp <;> omega)
theorem own_lcmp_le {x y : Int64} (ha : ta.eval A s none [] s = some (.long x)) (hb : tb.eval A s none [] s = some (.long y)) (hX : x.toInt = X) (hY : y.toInt = Y) : own_Is A s (.le (.old (.op2 .lcmp ta tb)) (.int 0)) (X ≤ Y) :=
  own_of_decide (Cond.le_ints (own_lcmp_eval ha hb) rfl) (by subst hX hY; rcases own_lcmp_cases x y with ⟨h, e⟩ | ⟨h, e⟩ | ⟨h, e⟩ <;> rw [e] <;> simp <;> omega)
theorem own_lcmp_ge {x y : Int64} (ha : ta.eval A s none [] s = some (.long x)) (hb : tb.eval A s none [] s = some (.long y)) (hX : x.toInt = X) (hY : y.toInt = Y) : own_Is A s (.le (.int 0) (.old (.op2 .lcmp ta tb))) (Y ≤ X) :=
  own_of_decide (Cond.le_ints rfl (own_lcmp_eval ha hb)) (by subst hX hY; rcases own_lcmp_cases x y with ⟨h, e⟩ | ⟨h, e⟩ | ⟨h, e⟩ <;> rw [e] <;> simp <;> omega)
theorem own_lcmp_eq {x y : Int64} (ha : ta.eval A s none [] s = some (.long x)) (hb : tb.eval A s none [] s = some (.long y)) (hX : x.toInt = X) (hY : y.toInt = Y) : own_Is A s (.eq (.old (.op2 .lcmp ta tb)) (.int 0)) (X = Y) :=
  own_of_decide (Cond.eq_ints (own_lcmp_eval ha hb) rfl) (by subst hX hY; rcases own_lcmp_cases x y with ⟨h, e⟩ | ⟨h, e⟩ | ⟨h, e⟩ <;> rw [e] <;> simp <;> omega)
end

theorem own_walk_eq {α β γ : Type} {w : Option (α × β × γ)} (h : w.isSome = true) {t : α} (e : (w.get h).1 = t) : w = some (t, (w.get h).2.1, (w.get h).2.2) := by
  subst e; exact (Option.some_get h).symm
/-! own 5: a callee's contract with a promise of one's own; the law's -/
def own_says (T : Term) : Cond := .and .returned (.eq .result (.old T))
theorem own_says_after {T : Term} {A : Array Value} {s E : State} {w : Value} (hc : T.closed = true) (hw : T.eval A s none [] s = some w) (hk : VKind.int.ok w = true ∨ VKind.long.ok w = true) : (own_says T).after A s (.returned (some w)) E = true := by
  have h1 : (Term.old T).eval A s (some (.returned (some w))) [] E = some w := by
    show T.eval A s (some (.returned (some w))) [] s = some w
    rw [Term.eval_closed (some (.returned (some w))) [] T s hc]; exact hw
  have h2 : Term.result.eval A s (some (.returned (some w))) [] E = some w := rfl
  rcases hk with hk | hk
  · obtain ⟨x, rfl⟩ := own_int hk
    simp [own_says, Cond.after, Cond.holds, Cond.value, h1, h2]
  · obtain ⟨x, rfl⟩ := own_long hk
    simp [own_says, Cond.after, Cond.holds, Cond.value, h1, h2]
theorem own_callee {l : Launch} {y : MethodName} {code : ByteArray} {maxL : Nat} {ret : Option FieldType} {ks : List VKind} {I : Info} {n : Nat} {t : STree} {tabs needs extra : List Cond} {post : Cond}
    (hx : plainName y.cls = true) (hown : I.own = y.cls) (hr : I.ret = ret)
    (hw : walkTo I code [] n true (entry ks maxL) = some (t, tabs, needs)) (hcalls : CallsOk l I maxL I.room)
    (hn : (needs.all (own_chk ks (.code y code maxL ret :: (tabs ++ extra)) [])) = true) (hp : Kit.pureVal t = true)
    (hv : ∀ A s, own_Kinds ks A → ∃ w, Kit.valueOf A s t = some w ∧ ∀ E, post.after A s (.returned (some w)) E = true) :
    MeetsLoose l y (specOf y code maxL ret ks post (tabs ++ extra) [] I.room) := by
  refine loops_meets (I := I) (ks0 := ks) (cuts := []) hx hown hr rfl rfl rfl (fun args s h => ?_) hw (fun _ => none) (fun _ _ _ _ _ => False) (fun _ _ _ => 0) (fun args s h => ?_) (fun args s _ h ks hks => by cases hks) hcalls
  · exact conj_before h _ List.mem_cons_self
  · have hall := conj_before h
    have hsz : args.size = ks.length := by
      have := hall (.count ks.length) (by simp)
      simpa [Cond.before, Cond.holds, Cond.value] using this
    have hq : ∀ q ∈ Sym.sorts 0 ks, q.before args s = true := fun q hq => hall q (by simp [hq])
    have hK := own_Kinds_of hsz hq
    have hT : ∀ c ∈ (Cond.code y code maxL ret :: (tabs ++ extra)), c.value args s none s [] = some true := fun c hc => by
      have : c.before args s = true := hall c (by
        rcases List.mem_cons.mp hc with rfl | hc
        · exact List.mem_cons_self
        · rcases List.mem_append.mp hc with hc | hc <;> simp [hc])
      simpa [Cond.before, Cond.holds] using this
    obtain ⟨w, hw1, hw2⟩ := hv args s hK
    refine ⟨hsz, hq, fun q h => hall q (by simp [h]), fun q hq => ?_, Kit.vc_of_value (w₀ := w) (fun E => hw2 E) t hp hw1⟩
    have := own_chk_sound (s := s) hK hT (fun c hc => by cases hc) q (List.all_eq_true.mp hn q hq)
    simpa [Cond.before, Cond.holds] using this
theorem own_law {l : Launch} {ks : List VKind} {I : Info} {n : Nat} {t : STree} {tabs needs : List Cond} (hx : plainName x.cls = true) (hown : I.own = x.cls) (hr : I.ret = ret)
    (hw : walkTo I code [] n true (entry ks maxLocals) = some (t, tabs, needs)) (hcalls : CallsOk l I maxLocals room_1)
    (hg : flatC (Cond.and given_1 narrow_1) = .count ks.length :: (Sym.sorts 0 ks ++ [.tt]))
    (ht : (tabs.all fun q => (Cond.code x code maxLocals ret :: tables_1).contains q) = true)
    {Tx D : List Cond} (hTx : ∀ A s, own_Kinds ks A → (∀ c ∈ Tx, c.value A s none s [] = some true) ∧ ∀ c ∈ D, ∃ b, c.value A s none s [] = some b)
    (hn : (needs.all (own_chk ks (Tx ++ (Cond.code x code maxLocals ret :: tables_1)) D)) = true) (hp : Kit.pureVal t = true)
    (hv : ∀ A s, own_Kinds ks A → Kit.valueOf A s t = some (.int 1)) :
    MeetsLoose l x (armSpec x code maxLocals ret tables_1 room_1 .tt (.and given_1 narrow_1) (.and limb_1_1 limb_1_2) frame_1_writes frame_1_arrays frame_1_statics) := by
  refine loops_meets (I := I) (ks0 := ks) (cuts := []) hx hown hr rfl rfl rfl (fun args s h => ?_) hw (fun _ => none) (fun _ _ _ _ _ => False) (fun _ _ _ => 0) (fun args s h => ?_) (fun args s _ h ks hks => by cases hks) hcalls
  · simp only [armSpec, allAtoms, List.foldr_cons, Cond.before_and, Bool.and_eq_true] at h; exact h.1.1
  · have hts : (allAtoms (Cond.code x code maxLocals ret :: tables_1)).before args s = true := by simp only [armSpec, Cond.before_and, Bool.and_eq_true] at h; exact h.1
    have hK0 : (Cond.and given_1 narrow_1).before args s = true := by simp only [armSpec, Cond.before_and, Bool.and_eq_true] at h ⊢; exact h.2.2
    have hall := flat_of_before _ hK0
    rw [hg] at hall
    have hsz : args.size = ks.length := by
      have := hall (.count ks.length) (by simp)
      simpa [Cond.before, Cond.holds, Cond.value] using this
    have hq : ∀ q ∈ Sym.sorts 0 ks, q.before args s = true := fun q hq => hall q (by simp [hq])
    have hK := own_Kinds_of hsz hq
    have hT : ∀ c ∈ (Tx ++ (Cond.code x code maxLocals ret :: tables_1)), c.value args s none s [] = some true := fun c hc => by
      rcases List.mem_append.mp hc with hc | hc
      · exact (hTx args s hK).1 c hc
      · exact value_of_before (atoms_spec hts c hc)
    refine ⟨hsz, hq, tabs_of_sub hts ht, fun q hq => before_of_value (own_chk_sound (s := s) hK hT (hTx args s hK).2 q (List.all_eq_true.mp hn q hq)), Kit.vc_of_value (w₀ := .int 1) (fun E => ?_) t hp (hv args s hK)⟩
    simp [armSpec, limb_1_1, limb_1_2, Cond.after, Cond.holds, Cond.value, Term.eval]
theorem own_main {l0 : True} {limb : Cond} (hM : ∀ l, MeetsLoose l x (armSpec x code maxLocals ret tables_1 room_1 .tt (.and given_1 narrow_1) (.and limb_1_1 limb_1_2) frame_1_writes frame_1_arrays frame_1_statics)) (h0 : ∀ args s o t, (Cond.and limb_1_1 limb_1_2).after args s o t = true → limb.after args s o t = true) :
    ArmFor flags0 classFile x code maxLocals ret World_1 tables_1 room_1 Calls_1 rest_1 Pre_1 (fun tb e a s o t => postC limb tb e a s o t ∧ Framed s o t (fieldLocs frame_1_writes a s ++ arrayLocs frame_1_arrays a s ++ staticLocs frame_1_statics s) 0 0) :=
  armFor_of_meets0 (fun l => (hM l).meets) h0
/-! own 6: a boolean as a term of ints -/
def own_TB (A : Array Value) (s : State) (T : Term) (P : Prop) : Prop := (P → T.eval A s none [] s = some (.int 1)) ∧ (¬ P → T.eval A s none [] s = some (.int 0))
def own_tltL (a b : Term) : Term := .op2 .iushr (.op2 .lcmp a b) (.int 31)
def own_tlt (a b : Term) : Term := own_tltL (.op1 .i2l a) (.op1 .i2l b)
def own_tnot (a : Term) : Term := .sub (.int 1) a
def own_tand (a b : Term) : Term := .op2 .iand a b
def own_tor (a b : Term) : Term := .op2 .ior a b
section
variable {A : Array Value} {s : State} {P Q : Prop} {ta tb T U : Term} {X Y : Int}
theorem own_tb_ltL {x y : Int64} (ha : ta.eval A s none [] s = some (.long x)) (hb : tb.eval A s none [] s = some (.long y)) (hX : x.toInt = X) (hY : y.toInt = Y) : own_TB A s (own_tltL ta tb) (X < Y) := by
  have h : (own_tltL ta tb).eval A s none [] s = some (.int (((if x > y then (1 : Int32) else if x == y then 0 else -1).toUInt32 >>> ((31 : Int32) &&& 31).toUInt32).toInt32)) := by
    simp only [own_tltL, Term.eval, ha, hb]; rfl
  subst hX hY
  rcases own_lcmp_cases x y with ⟨h1, e⟩ | ⟨h1, e⟩ | ⟨h1, e⟩ <;> rw [e] at h <;> refine ⟨fun p => ?_, fun p => ?_⟩ <;> first | omega | exact h
theorem own_tb_lt {x y : Int32} (ha : ta.eval A s none [] s = some (.int x)) (hb : tb.eval A s none [] s = some (.int y)) (hX : x.toInt = X) (hY : y.toInt = Y) : own_TB A s (own_tlt ta tb) (X < Y) :=
  own_tb_ltL (x := x.toInt64) (y := y.toInt64) (by simp only [Term.eval, ha]; rfl) (by simp only [Term.eval, hb]; rfl) ((Int32.toInt_toInt64 x).trans hX) ((Int32.toInt_toInt64 y).trans hY)
theorem own_tb_not (h : own_TB A s T P) : own_TB A s (own_tnot T) (¬ P) :=
  ⟨fun p => by simp only [own_tnot, Term.eval, h.2 p]; rfl, fun p => by simp only [own_tnot, Term.eval, h.1 (Classical.not_not.mp p)]; rfl⟩
theorem own_tb_and (h : own_TB A s T P) (k : own_TB A s U Q) : own_TB A s (own_tand T U) (P ∧ Q) := by
  by_cases p : P <;> by_cases q : Q
  · exact ⟨fun _ => by simp only [own_tand, Term.eval, h.1 p, k.1 q]; rfl, fun z => absurd ⟨p, q⟩ z⟩
  · exact ⟨fun z => absurd z.2 q, fun _ => by simp only [own_tand, Term.eval, h.1 p, k.2 q]; rfl⟩
  · exact ⟨fun z => absurd z.1 p, fun _ => by simp only [own_tand, Term.eval, h.2 p, k.1 q]; rfl⟩
  · exact ⟨fun z => absurd z.1 p, fun _ => by simp only [own_tand, Term.eval, h.2 p, k.2 q]; rfl⟩
theorem own_tb_or (h : own_TB A s T P) (k : own_TB A s U Q) : own_TB A s (own_tor T U) (P ∨ Q) := by
  by_cases p : P <;> by_cases q : Q
  · exact ⟨fun _ => by simp only [own_tor, Term.eval, h.1 p, k.1 q]; rfl, fun z => absurd (Or.inl p) z⟩
  · exact ⟨fun _ => by simp only [own_tor, Term.eval, h.1 p, k.2 q]; rfl, fun z => absurd (Or.inl p) z⟩
  · exact ⟨fun _ => by simp only [own_tor, Term.eval, h.2 p, k.1 q]; rfl, fun z => absurd (Or.inr q) z⟩
  · exact ⟨fun z => (z.elim (absurd · p) (absurd · q)), fun _ => by simp only [own_tor, Term.eval, h.2 p, k.2 q]; rfl⟩
theorem own_tb_iff (h : own_TB A s T P) (e : P ↔ Q) : own_TB A s T Q := ⟨fun q => h.1 (e.mpr q), fun q => h.2 (fun p => q (e.mp p))⟩
theorem own_tb_some (h : own_TB A s T P) : ∃ x : Int32, T.eval A s none [] s = some (.int x) := by
  by_cases p : P
  · exact ⟨1, h.1 p⟩
  · exact ⟨0, h.2 p⟩
theorem own_eq_tb1 (h : own_TB A s T P) (hb : tb.eval A s none [] s = some (.int 1)) : own_Is A s (.eq (.old T) tb) P :=
  ⟨fun p => by rw [Cond.eq_ints (show (Term.old T).eval A s none [] s = _ from h.1 p) hb]; rfl, fun p => by rw [Cond.eq_ints (show (Term.old T).eval A s none [] s = _ from h.2 p) hb]; rfl⟩
theorem own_eq_tb0 (h : own_TB A s T P) (hb : tb.eval A s none [] s = some (.int 0)) : own_Is A s (.eq (.old T) tb) (¬ P) :=
  ⟨fun p => by rw [Cond.eq_ints (show (Term.old T).eval A s none [] s = _ from h.2 p) hb]; rfl, fun p => by rw [Cond.eq_ints (show (Term.old T).eval A s none [] s = _ from h.1 (Classical.not_not.mp p)) hb]; rfl⟩
theorem own_eq_self (h : own_TB A s T P) : own_Is A s (.eq (.old T) (.old T)) True := by
  obtain ⟨x, e⟩ := own_tb_some h
  exact ⟨fun _ => by rw [Cond.eq_ints (show (Term.old T).eval A s none [] s = _ from e) (show (Term.old T).eval A s none [] s = _ from e)]; simp, fun p => absurd trivial p⟩
/-- a callee that answers P by 1 or 0, its promise the term T -/
theorem own_bool {t : STree} (h : own_TB A s T P) (hc : T.closed = true) (h1 : P → Kit.valueOf A s t = some (.int 1)) (h0 : ¬ P → Kit.valueOf A s t = some (.int 0)) : ∃ w, Kit.valueOf A s t = some w ∧ ∀ E, (own_says T).after A s (.returned (some w)) E = true := by
  by_cases p : P
  · exact ⟨_, h1 p, fun E => own_says_after hc (h.1 p) (Or.inl rfl)⟩
  · exact ⟨_, h0 p, fun E => own_says_after hc (h.2 p) (Or.inl rfl)⟩
end
end Jvm.Pilot.@@N@@
namespace Jvm.Pilot.@@N@@
/-! own 7: the wrap of 64 and of 32 bits as remainders that omega reads; or and xor with one bit -/
theorem own_b64 (n : Int) : n.bmod (2 ^ 64) = (n + 9223372036854775808) % 18446744073709551616 - 9223372036854775808 := by rw [Int.bmod_def]; omega
theorem own_b32 (n : Int) : n.bmod (2 ^ 32) = (n + 2147483648) % 4294967296 - 2147483648 := by rw [Int.bmod_def]; omega
theorem own_add64 (x y : Int64) : (x + y).toInt = (x.toInt + y.toInt + 9223372036854775808) % 18446744073709551616 - 9223372036854775808 := by rw [Int64.toInt_add, own_b64]
theorem own_sub64 (x y : Int64) : (x - y).toInt = (x.toInt - y.toInt + 9223372036854775808) % 18446744073709551616 - 9223372036854775808 := by rw [Int64.toInt_sub, own_b64]
theorem own_mul64 (x y : Int64) : (x * y).toInt = (x.toInt * y.toInt + 9223372036854775808) % 18446744073709551616 - 9223372036854775808 := by rw [Int64.toInt_mul, own_b64]
theorem own_add32 (x y : Int32) : (x + y).toInt = (x.toInt + y.toInt + 2147483648) % 4294967296 - 2147483648 := by rw [Int32.toInt_add, own_b32]
theorem own_sub32 (x y : Int32) : (x - y).toInt = (x.toInt - y.toInt + 2147483648) % 4294967296 - 2147483648 := by rw [Int32.toInt_sub, own_b32]
theorem own_mul32 (x y : Int32) : (x * y).toInt = (x.toInt * y.toInt + 2147483648) % 4294967296 - 2147483648 := by rw [Int32.toInt_mul, own_b32]
theorem own_or32 (x : Int32) : (x ||| 32).toInt = x.toInt + 32 - 32 * (x.toInt / 32 % 2) := by
  have h : ∀ r : Fin 64, r.val ||| 32 = r.val + 32 - 32 * (r.val / 32 % 2) := by decide
  have e : (x ||| 32).toInt = (x.toBitVec ||| (32 : Int32).toBitVec).toInt := rfl
  have e' : x.toInt = x.toBitVec.toInt := rfl
  have hb := x.toBitVec.isLt
  have n1 : (x.toBitVec ||| (32 : Int32).toBitVec).toNat = x.toBitVec.toNat ||| 32 := by rw [BitVec.toNat_or]; rfl
  have n2 : (x.toBitVec.toNat ||| 32) % 2 ^ 6 = x.toBitVec.toNat % 2 ^ 6 ||| 32 % 2 ^ 6 := Nat.or_mod_two_pow
  have n3 : (x.toBitVec.toNat ||| 32) / 2 ^ 6 = x.toBitVec.toNat / 2 ^ 6 ||| 32 / 2 ^ 6 := Nat.or_div_two_pow
  have n4 := h ⟨x.toBitVec.toNat % 64, Nat.mod_lt _ (by decide)⟩
  simp at n2 n3 n4
  rw [e, e', BitVec.toInt_eq_toNat_cond, BitVec.toInt_eq_toNat_cond, n1]
  generalize x.toBitVec.toNat = n at *
  generalize n ||| 32 = k at *
  split <;> split <;> omega
theorem own_xmin (x : Int64) : (x ^^^ (-9223372036854775808)).toInt = (x.toInt + 18446744073709551616) % 18446744073709551616 - 9223372036854775808 := by
  have e : (x ^^^ (-9223372036854775808)).toInt = (x.toBitVec ^^^ (-9223372036854775808 : Int64).toBitVec).toInt := rfl
  have e' : x.toInt = x.toBitVec.toInt := rfl
  have hb := x.toBitVec.isLt
  have n1 : (x.toBitVec ^^^ (-9223372036854775808 : Int64).toBitVec).toNat = x.toBitVec.toNat ^^^ 9223372036854775808 := by rw [BitVec.toNat_xor]; rfl
  have n2 : (x.toBitVec.toNat ^^^ 9223372036854775808) % 2 ^ 63 = x.toBitVec.toNat % 2 ^ 63 ^^^ 9223372036854775808 % 2 ^ 63 := Nat.xor_mod_two_pow
  have n3 : (x.toBitVec.toNat ^^^ 9223372036854775808) / 2 ^ 63 = x.toBitVec.toNat / 2 ^ 63 ^^^ 9223372036854775808 / 2 ^ 63 := Nat.xor_div_two_pow
  have h : ∀ r : Fin 2, r.val ^^^ 1 = 1 - r.val := by decide
  have n4 := h ⟨x.toBitVec.toNat / 9223372036854775808, by omega⟩
  simp at n2 n3 n4
  rw [e, e', BitVec.toInt_eq_toNat_cond, BitVec.toInt_eq_toNat_cond, n1]
  generalize x.toBitVec.toNat = n at *
  generalize n ^^^ 9223372036854775808 = k at *
  split <;> split <;> omega
theorem own_i2c (x : Int32) : x.toUInt32.toUInt16.toUInt32.toInt32.toInt = x.toInt % 65536 := by
  have e' : x.toInt = x.toBitVec.toInt := rfl
  have hb := x.toBitVec.isLt
  have e : x.toUInt32.toUInt16.toUInt32.toInt32.toInt = (x.toUInt32.toUInt16.toUInt32.toInt32).toBitVec.toInt := rfl
  have n1 : (x.toUInt32.toUInt16.toUInt32.toInt32).toBitVec.toNat = x.toBitVec.toNat % 65536 := by
    show (x.toUInt32.toUInt16.toUInt32).toNat = _
    simp
    rfl
  rw [e, e', BitVec.toInt_eq_toNat_cond, BitVec.toInt_eq_toNat_cond, n1]
  generalize x.toBitVec.toNat = n at *
  split <;> split <;> omega
end Jvm.Pilot.@@N@@
namespace Jvm.Pilot.@@N@@
open Jvm Jvm.ClassFile Sem Op Jvm.Sym Jvm.Pilot.@@N@@.Jvm.D
def own_max (a b : Int32) : Int32 := a + ((((if a.toInt64 > b.toInt64 then (1 : Int32) else if a.toInt64 == b.toInt64 then 0 else -1).toUInt32 >>> ((31 : Int32) &&& 31).toUInt32).toInt32)) * (b - a)
def own_tmax (a b : Term) : Term := .add a (.mul (own_tlt a b) (.sub b a))
theorem own_max_eq (a b : Int32) : own_max a b = if a.toInt < b.toInt then b else a := by
  unfold own_max
  have ha := Int32.toInt_toInt64 a
  have hb := Int32.toInt_toInt64 b
  rcases own_lcmp_cases a.toInt64 b.toInt64 with ⟨h, e⟩ | ⟨h, e⟩ | ⟨h, e⟩ <;> rw [e]
  · rw [if_neg (by omega)]
    have : ((1 : Int32).toUInt32 >>> ((31 : Int32) &&& 31).toUInt32).toInt32 = 0 := by decide
    rw [this]; grind
  · rw [if_neg (by omega)]
    have : ((0 : Int32).toUInt32 >>> ((31 : Int32) &&& 31).toUInt32).toInt32 = 0 := by decide
    rw [this]; grind
  · rw [if_pos (by omega)]
    have : ((-1 : Int32).toUInt32 >>> ((31 : Int32) &&& 31).toUInt32).toInt32 = 1 := by decide
    rw [this]; grind
theorem own_shl64 (x n : Int64) {k : Nat} (hn : (n.toBitVec.smod 64).toNat = k) : (x <<< n).toInt = (x.toInt * 2 ^ k + 9223372036854775808) % 18446744073709551616 - 9223372036854775808 := by
  have e : (x <<< n).toInt = (x.toBitVec <<< (n.toBitVec.smod 64)).toInt := rfl
  rw [e, BitVec.shiftLeft_eq', BitVec.toInt_shiftLeft, hn]
  rw [Nat.shiftLeft_eq, Int.natCast_mul, Int.natCast_pow, ← Int.bmod_mul_bmod, ← BitVec.toInt_eq_toNat_bmod]
  exact own_b64 _
def own_pm (a : Int64) : Int64 := a &&& (9223372036854775807 : Int64)
theorem own_times {N C P Q : Int} (h1 : 0 ≤ N) (h2 : N < 9223372036854775808) (h3 : 1 ≤ C) (h4 : C < 2147483648) (hP : P = N / 4294967296 * C) (hQ : Q = N % 4294967296 * C) :
    N * C = P * 4294967296 + Q ∧ 0 ≤ P ∧ P < 4611686018427387904 ∧ 0 ≤ Q ∧ Q < 9223372036854775808 ∧ (9223372036854775807 / C < N ↔ 9223372036854775807 < P * 4294967296 + Q) := by
  have a1 : 0 ≤ N / 4294967296 := by omega
  have a2 : N / 4294967296 ≤ 2147483647 := by omega
  have a3 : 0 ≤ N % 4294967296 := by omega
  have a4 : N % 4294967296 ≤ 4294967295 := by omega
  have a5 : N = N / 4294967296 * 4294967296 + N % 4294967296 := by omega
  have e : N * C = P * 4294967296 + Q := by
    rw [hP, hQ]
    generalize N / 4294967296 = u at *
    generalize N % 4294967296 = v at *
    rw [a5, Int.add_mul, Int.mul_right_comm]
  have b1 : 0 ≤ P := by rw [hP]; exact Int.mul_nonneg a1 (by omega)
  have b2 : P ≤ 2147483647 * 2147483647 := by rw [hP]; exact Int.mul_le_mul a2 (by omega) (by omega) (by omega)
  have b3 : 0 ≤ Q := by rw [hQ]; exact Int.mul_nonneg a3 (by omega)
  have b4 : Q ≤ 4294967295 * 2147483647 := by rw [hQ]; exact Int.mul_le_mul a4 (by omega) (by omega) (by omega)
  refine ⟨e, b1, by omega, b3, by omega, ?_⟩
  rw [Int.ediv_lt_iff_lt_mul (by omega), e]

theorem own_cnt (c : Int32) : 1 ≤ (own_max (1 : Int32) (c &&& (2147483647 : Int32))).toInt ∧ (own_max (1 : Int32) (c &&& (2147483647 : Int32))).toInt < 2147483648 := by
  have e1 : (c &&& (2147483647 : Int32)).toInt = c.toInt % 2 ^ 31 := Jvm.Kit.i32_mask c 2147483647 (by decide) (by decide)
  rw [own_max_eq]
  have h1 : (1 : Int32).toInt = 1 := by decide
  split <;> omega
theorem own_dt (a : Int64) (c : Int32) (s : State) : ((.op2 .ldiv (.long 9223372036854775807) (.op1 .i2l (own_tmax (.int 1) (.op2 .iand (.arg 1) (.int 2147483647))))) : Term).eval #[.long a, .int c] s none [] s = some (.long ((9223372036854775807 : Int64) / (own_max (1 : Int32) (c &&& (2147483647 : Int32))).toInt64)) := by
  have h := own_cnt c
  have hne : (own_max (1 : Int32) (c &&& (2147483647 : Int32))).toInt64 ≠ 0 := fun q => by
    have e3 := Jvm.Kit.i64_of_i32 (own_max (1 : Int32) (c &&& (2147483647 : Int32)))
    rw [q] at e3
    simp at e3
    omega
  show (Binary.ldiv.apply (.long 9223372036854775807) (.long (own_max (1 : Int32) (c &&& (2147483647 : Int32))).toInt64)) = _
  simp only [Binary.apply, if_neg hne]

/-! body 1 -/
def S1 : Spec := { Jvm.Kit.MathC.maxI.S with pre := Jvm.Kit.MathC.maxI.S.pre, post := own_says (own_tmax (.arg 0) (.arg 1)) }
def c1 : Callee := { y := Lib.MathLoose.max_int.x, S := S1, bytes := Lib.MathLoose.max_int.code, maxL := 2, ret := some .int, static := true, params := 2, res := some .int }
def own_T1 : List Cond := []
theorem S1_meets (l : Launch) : MeetsLoose l Lib.MathLoose.max_int.x S1 :=
  (Jvm.Kit.MathC.maxI.meets l).consequence _ _ (fun _ _ h => h) (fun args s o s' hpre h => by
    have h1 : Jvm.Kit.MathC.maxI.post.after args s o s' = true := h.1
    have hp : (Cond.and (.code Lib.MathLoose.max_int.x Lib.MathLoose.max_int.code 2 (some .int)) (.and (.count 2) (.and (.isInt (.arg 0)) (.isInt (.arg 1))))).before args s = true := hpre
    simp only [Cond.before_and, Bool.and_eq_true] at hp
    obtain ⟨a, b, rfl⟩ := Cond.two_ints hp.2.1 hp.2.2.1 hp.2.2.2
    have key : o = .returned (some (.int (own_max a b))) := by
      rw [own_max_eq]
      simp only [Jvm.Kit.MathC.maxI.post, Cond.after, Cond.holds, Cond.value, Term.eval] at h1
      by_cases q : a < b
      · rw [if_pos (Int32.lt_iff_toInt_lt.mp q)]
        cases o with
        | threw x => simp [q] at h1
        | returned v =>
          cases v with
          | none => simp [q] at h1
          | some w => cases w with
            | int v => by_cases hv : v = b
                       · simp [hv]
                       · simp [q, hv] at h1
            | _ => simp [q] at h1
      · rw [if_neg (fun z => q (Int32.lt_iff_toInt_lt.mpr z))]
        cases o with
        | threw x => simp [q] at h1
        | returned v =>
          cases v with
          | none => simp [q] at h1
          | some w => cases w with
            | int v => by_cases hv : v = a
                       · simp [hv]
                       · simp [q, hv] at h1
            | _ => simp [q] at h1
    rw [key]
    exact own_says_after rfl rfl (Or.inl rfl))
theorem S1_cold : S1.Cold := Spec.cold_of_keeps (by decide +kernel)
/-! body 2 -/
def y2 : MethodName := ⟨"com/example/drip/drip/Nanos", "times", "(JI)J"⟩
def I2 : Info := { own := y2.cls, ret := some .long, longs := [(46, 9223372036854775807)], maxLocals := 3 }
def v2 := walk I2 prog_22_method_5_code 400 (entry [.long, .int] 3)
set_option maxRecDepth 65536 in
theorem v2_some : v2.isSome = true := by decide +kernel
def G2 : Cond × List Cond × List Cond := v2.get v2_some
def own_T2 : List Cond := G2.2.1
def S2 : Spec := specOf y2 prog_22_method_5_code 3 (some .long) [.long, .int] G2.1 G2.2.1 G2.2.2 I2.room
def c2 : Callee := { y := y2, S := S2, bytes := prog_22_method_5_code, maxL := 3, ret := some .long, static := true, params := 2, res := some .long }
theorem I2_calls (l : Launch) : CallsOk l I2 3 I2.room := fun q hq => by
  cases hq
theorem S2_meets (l : Launch) : MeetsLoose l y2 S2 :=
  walk_meets (n := 400) (I := I2) (by decide) rfl rfl (show walk I2 prog_22_method_5_code 400 (entry [.long, .int] 3) = some (G2.1, G2.2.1, G2.2.2) from (Option.some_get v2_some).symm) (I2_calls l)
set_option maxRecDepth 65536 in
theorem S2_cold : S2.Cold := Spec.cold_of_keeps (by decide +kernel)
/-! body 0 -/
def I0 : Info := { own := x.cls, ret := ret, ints := [(11, 2147483647)], longs := [(9, 9223372036854775807), (18, 4294967295), (20, 2147483648)], calls := [(12, c1), (22, c2)], maxLocals := maxLocals, room := room_1 }
def w0 := walkTo I0 code [] 400 true (entry [.long, .int] maxLocals)
set_option maxRecDepth 65536 in
theorem w0_some : w0.isSome = true := by decide +kernel
def own0_g0 : Cond := (.lt (.old (.op2 .lcmp (.op2 .lmul (.op2 .lushr (.op2 .land (.arg 0) (.long 9223372036854775807)) (.int 32)) (.op1 .i2l (.add (.int 1) (.mul (.op2 .iushr (.op2 .lcmp (.op1 .i2l (.int 1)) (.op1 .i2l (.op2 .iand (.arg 1) (.int 2147483647)))) (.int 31)) (.sub (.op2 .iand (.arg 1) (.int 2147483647)) (.int 1)))))) (.long 2147483648))) (.int 0))
def own0_g1 : Cond := (.le (.int 0) (.old (.op2 .lcmp (.op2 .ladd (.op2 .lshl (.op2 .lmul (.op2 .lushr (.op2 .land (.arg 0) (.long 9223372036854775807)) (.int 32)) (.op1 .i2l (.add (.int 1) (.mul (.op2 .iushr (.op2 .lcmp (.op1 .i2l (.int 1)) (.op1 .i2l (.op2 .iand (.arg 1) (.int 2147483647)))) (.int 31)) (.sub (.op2 .iand (.arg 1) (.int 2147483647)) (.int 1)))))) (.int 32)) (.op2 .lmul (.op2 .land (.op2 .land (.arg 0) (.long 9223372036854775807)) (.long 4294967295)) (.op1 .i2l (.add (.int 1) (.mul (.op2 .iushr (.op2 .lcmp (.op1 .i2l (.int 1)) (.op1 .i2l (.op2 .iand (.arg 1) (.int 2147483647)))) (.int 31)) (.sub (.op2 .iand (.arg 1) (.int 2147483647)) (.int 1))))))) (.long 0))))
def own0_g2 : Cond := (.lt (.int 0) (.old (.op2 .lcmp (.op2 .land (.arg 0) (.long 9223372036854775807)) (.op2 .ldiv (.long 9223372036854775807) (.op1 .i2l (.add (.int 1) (.mul (.op2 .iushr (.op2 .lcmp (.op1 .i2l (.int 1)) (.op1 .i2l (.op2 .iand (.arg 1) (.int 2147483647)))) (.int 31)) (.sub (.op2 .iand (.arg 1) (.int 2147483647)) (.int 1)))))))))
def own0_g3 : Cond := (.eq (.old (.op2 .lcmp (.long 9223372036854775807) (.op2 .ladd (.op2 .lshl (.op2 .lmul (.op2 .lushr (.op2 .land (.arg 0) (.long 9223372036854775807)) (.int 32)) (.op1 .i2l (.add (.int 1) (.mul (.op2 .iushr (.op2 .lcmp (.op1 .i2l (.int 1)) (.op1 .i2l (.op2 .iand (.arg 1) (.int 2147483647)))) (.int 31)) (.sub (.op2 .iand (.arg 1) (.int 2147483647)) (.int 1)))))) (.int 32)) (.op2 .lmul (.op2 .land (.op2 .land (.arg 0) (.long 9223372036854775807)) (.long 4294967295)) (.op1 .i2l (.add (.int 1) (.mul (.op2 .iushr (.op2 .lcmp (.op1 .i2l (.int 1)) (.op1 .i2l (.op2 .iand (.arg 1) (.int 2147483647)))) (.int 31)) (.sub (.op2 .iand (.arg 1) (.int 2147483647)) (.int 1))))))))) (.int 0))
def own0_g4 : Cond := (.eq (.old (.op2 .lcmp (.op2 .lmul (.op2 .land (.arg 0) (.long 9223372036854775807)) (.op1 .i2l (.add (.int 1) (.mul (.op2 .iushr (.op2 .lcmp (.op1 .i2l (.int 1)) (.op1 .i2l (.op2 .iand (.arg 1) (.int 2147483647)))) (.int 31)) (.sub (.op2 .iand (.arg 1) (.int 2147483647)) (.int 1)))))) (.op2 .ladd (.op2 .lshl (.op2 .lmul (.op2 .lushr (.op2 .land (.arg 0) (.long 9223372036854775807)) (.int 32)) (.op1 .i2l (.add (.int 1) (.mul (.op2 .iushr (.op2 .lcmp (.op1 .i2l (.int 1)) (.op1 .i2l (.op2 .iand (.arg 1) (.int 2147483647)))) (.int 31)) (.sub (.op2 .iand (.arg 1) (.int 2147483647)) (.int 1)))))) (.int 32)) (.op2 .lmul (.op2 .land (.op2 .land (.arg 0) (.long 9223372036854775807)) (.long 4294967295)) (.op1 .i2l (.add (.int 1) (.mul (.op2 .iushr (.op2 .lcmp (.op1 .i2l (.int 1)) (.op1 .i2l (.op2 .iand (.arg 1) (.int 2147483647)))) (.int 31)) (.sub (.op2 .iand (.arg 1) (.int 2147483647)) (.int 1))))))))) (.int 0))
def own0_g5 : Cond := (.eq (.old (.op2 .lcmp (.long 9223372036854775807) (.long 9223372036854775807))) (.int 0))
def own0_g6 : Cond := (.eq (.old (.op2 .lcmp (.op2 .lmul (.op2 .land (.arg 0) (.long 9223372036854775807)) (.op1 .i2l (.add (.int 1) (.mul (.op2 .iushr (.op2 .lcmp (.op1 .i2l (.int 1)) (.op1 .i2l (.op2 .iand (.arg 1) (.int 2147483647)))) (.int 31)) (.sub (.op2 .iand (.arg 1) (.int 2147483647)) (.int 1)))))) (.long 9223372036854775807))) (.int 0))
def own0_t : STree := (.fork own0_g0 (.fork own0_g1 (.fork own0_g2 (.fork (.not own0_g3) (.ret (some ⟨(.op2 .iand (.int 0) (.int 1)), .int⟩) []) (.ret (some ⟨(.op2 .iand (.int 1) (.int 1)), .int⟩) [])) (.fork (.not own0_g4) (.ret (some ⟨(.op2 .iand (.int 0) (.int 1)), .int⟩) []) (.ret (some ⟨(.op2 .iand (.int 1) (.int 1)), .int⟩) []))) (.fork own0_g2 (.fork (.not own0_g5) (.ret (some ⟨(.op2 .iand (.int 0) (.int 1)), .int⟩) []) (.ret (some ⟨(.op2 .iand (.int 1) (.int 1)), .int⟩) [])) (.fork (.not own0_g6) (.ret (some ⟨(.op2 .iand (.int 0) (.int 1)), .int⟩) []) (.ret (some ⟨(.op2 .iand (.int 1) (.int 1)), .int⟩) [])))) (.fork own0_g2 (.fork (.not own0_g5) (.ret (some ⟨(.op2 .iand (.int 0) (.int 1)), .int⟩) []) (.ret (some ⟨(.op2 .iand (.int 1) (.int 1)), .int⟩) [])) (.fork (.not own0_g6) (.ret (some ⟨(.op2 .iand (.int 0) (.int 1)), .int⟩) []) (.ret (some ⟨(.op2 .iand (.int 1) (.int 1)), .int⟩) []))))
set_option maxRecDepth 65536 in
theorem w0_tree : (w0.get w0_some).1 = own0_t := by decide +kernel
theorem w0_walk : walkTo I0 code [] 400 true (entry [.long, .int] maxLocals) = some (own0_t, (w0.get w0_some).2.1, (w0.get w0_some).2.2) := own_walk_eq w0_some w0_tree
theorem I0_calls (l : Launch) : CallsOk l I0 maxLocals room_1 := fun q hq => by
  simp only [I0, List.mem_cons, List.not_mem_nil, or_false] at hq
  rcases hq with rfl | rfl
  · exact ⟨rfl, rfl, S1_meets l, S1_cold⟩
  · exact ⟨rfl, rfl, S2_meets l, S2_cold⟩
set_option maxRecDepth 65536 in
set_option maxHeartbeats 4000000 in
theorem value0 (a : Int64) (c : Int32) (s : State) : Kit.valueOf #[.long a, .int c] s own0_t = some (.int 1) := by
  have hC := own_cnt c
  have e3 := Jvm.Kit.i64_of_i32 (own_max (1 : Int32) (c &&& (2147483647 : Int32)))
  have e4 : (a &&& (9223372036854775807 : Int64)).toInt = a.toInt % 2 ^ 63 := Jvm.Kit.i64_mask a 9223372036854775807 (by decide) (by decide)
  have hN : 0 ≤ (a &&& (9223372036854775807 : Int64)).toInt ∧ (a &&& (9223372036854775807 : Int64)).toInt < 9223372036854775808 := by rw [e4]; omega
  have e5 : (((a &&& (9223372036854775807 : Int64)).toUInt64 >>> ((32 : Int32) &&& 0x3f).toInt64.toUInt64).toInt64).toInt = (a &&& (9223372036854775807 : Int64)).toInt / 4294967296 := Jvm.Kit.i64_lushr (k := 32) (Jvm.Kit.i64_nonneg.mpr hN.1) (by decide) (by decide)
  have e6 : ((a &&& (9223372036854775807 : Int64)) &&& (4294967295 : Int64)).toInt = (a &&& (9223372036854775807 : Int64)).toInt % 4294967296 := Jvm.Kit.i64_mask _ 4294967295 (k := 32) (by decide) (by decide)
  obtain ⟨hT1, hT2, hT3, hT4, hT5, hT6⟩ := own_times hN.1 hN.2 hC.1 hC.2 rfl rfl
  have e7 := own_mul64 (((a &&& (9223372036854775807 : Int64)).toUInt64 >>> ((32 : Int32) &&& 0x3f).toInt64.toUInt64).toInt64) (own_max (1 : Int32) (c &&& (2147483647 : Int32))).toInt64
  have e8 := own_mul64 ((a &&& (9223372036854775807 : Int64)) &&& (4294967295 : Int64)) (own_max (1 : Int32) (c &&& (2147483647 : Int32))).toInt64
  rw [e5, e3] at e7
  rw [e6, e3] at e8
  have e9 := own_shl64 ((((a &&& (9223372036854775807 : Int64)).toUInt64 >>> ((32 : Int32) &&& 0x3f).toInt64.toUInt64).toInt64) * (own_max (1 : Int32) (c &&& (2147483647 : Int32))).toInt64) ((32 : Int32) &&& 0x3f).toInt64 (k := 32) (by decide)
  have e10 := own_add64 (((((a &&& (9223372036854775807 : Int64)).toUInt64 >>> ((32 : Int32) &&& 0x3f).toInt64.toUInt64).toInt64) * (own_max (1 : Int32) (c &&& (2147483647 : Int32))).toInt64) <<< ((32 : Int32) &&& 0x3f).toInt64) (((a &&& (9223372036854775807 : Int64)) &&& (4294967295 : Int64)) * (own_max (1 : Int32) (c &&& (2147483647 : Int32))).toInt64)
  have e11 := own_mul64 (a &&& (9223372036854775807 : Int64)) (own_max (1 : Int32) (c &&& (2147483647 : Int32))).toInt64
  rw [e3, hT1] at e11
  have e12 : ((9223372036854775807 : Int64) / (own_max (1 : Int32) (c &&& (2147483647 : Int32))).toInt64).toInt = 9223372036854775807 / (own_max (1 : Int32) (c &&& (2147483647 : Int32))).toInt := by
    rw [Jvm.Kit.i64_div (by rw [e3]; omega), e3]
    exact Int.tdiv_eq_ediv_of_nonneg (by decide)
  rw [← e12] at hT6
  have hev := own_dt a c s
  generalize (a &&& (9223372036854775807 : Int64)).toInt / 4294967296 * (own_max (1 : Int32) (c &&& (2147483647 : Int32))).toInt = P at *
  generalize (a &&& (9223372036854775807 : Int64)).toInt % 4294967296 * (own_max (1 : Int32) (c &&& (2147483647 : Int32))).toInt = Q at *
  obtain ⟨vN, fN⟩ : ∃ z : Int, (a &&& (9223372036854775807 : Int64)).toInt = z := ⟨_, rfl⟩
  obtain ⟨vP, fP⟩ : ∃ z : Int, ((((a &&& (9223372036854775807 : Int64)).toUInt64 >>> ((32 : Int32) &&& 0x3f).toInt64.toUInt64).toInt64) * (own_max (1 : Int32) (c &&& (2147483647 : Int32))).toInt64).toInt = z := ⟨_, rfl⟩
  obtain ⟨vQ, fQ⟩ : ∃ z : Int, (((a &&& (9223372036854775807 : Int64)) &&& (4294967295 : Int64)) * (own_max (1 : Int32) (c &&& (2147483647 : Int32))).toInt64).toInt = z := ⟨_, rfl⟩
  obtain ⟨vH, fH⟩ : ∃ z : Int, (((((a &&& (9223372036854775807 : Int64)).toUInt64 >>> ((32 : Int32) &&& 0x3f).toInt64.toUInt64).toInt64) * (own_max (1 : Int32) (c &&& (2147483647 : Int32))).toInt64) <<< ((32 : Int32) &&& 0x3f).toInt64).toInt = z := ⟨_, rfl⟩
  obtain ⟨vS, fS⟩ : ∃ z : Int, ((((((a &&& (9223372036854775807 : Int64)).toUInt64 >>> ((32 : Int32) &&& 0x3f).toInt64.toUInt64).toInt64) * (own_max (1 : Int32) (c &&& (2147483647 : Int32))).toInt64) <<< ((32 : Int32) &&& 0x3f).toInt64) + (((a &&& (9223372036854775807 : Int64)) &&& (4294967295 : Int64)) * (own_max (1 : Int32) (c &&& (2147483647 : Int32))).toInt64)).toInt = z := ⟨_, rfl⟩
  obtain ⟨vR, fR⟩ : ∃ z : Int, ((a &&& (9223372036854775807 : Int64)) * (own_max (1 : Int32) (c &&& (2147483647 : Int32))).toInt64).toInt = z := ⟨_, rfl⟩
  obtain ⟨vD, fD⟩ : ∃ z : Int, ((9223372036854775807 : Int64) / (own_max (1 : Int32) (c &&& (2147483647 : Int32))).toInt64).toInt = z := ⟨_, rfl⟩
  rw [fP] at e7 e9
  rw [fQ] at e8 e10
  rw [fH] at e9 e10
  rw [fS] at e10
  rw [fR] at e11
  rw [fD, fN] at hT6
  clear e3 e4 e5 e6 hT1 e12 hN hC
  have g0 : own_Is #[.long a, .int c] s own0_g0 (vP < (2147483648 : Int)) := own_lcmp_lt rfl rfl fP (by decide)
  have g1 : own_Is #[.long a, .int c] s own0_g1 ((0 : Int) ≤ vS) := own_lcmp_ge rfl rfl fS (by decide)
  have g2 : own_Is #[.long a, .int c] s own0_g2 (vD < vN) := own_lcmp_gt rfl hev fN fD
  have g3 : own_Is #[.long a, .int c] s own0_g3 ((9223372036854775807 : Int) = vS) := own_lcmp_eq rfl rfl (by decide) fS
  have g4 : own_Is #[.long a, .int c] s own0_g4 (vR = vS) := own_lcmp_eq rfl rfl fR fS
  have g5 : own_Is #[.long a, .int c] s own0_g5 ((9223372036854775807 : Int) = (9223372036854775807 : Int)) := own_lcmp_eq rfl rfl (by decide) (by decide)
  have g6 : own_Is #[.long a, .int c] s own0_g6 (vR = (9223372036854775807 : Int)) := own_lcmp_eq rfl rfl fR (by decide)
  refine own_fork g0 (fun h0 => ?_) (fun h0 => ?_)
  · refine own_fork g1 (fun h1 => ?_) (fun h1 => ?_)
    · refine own_fork g2 (fun h2 => ?_) (fun h2 => ?_)
      · refine own_fork (own_not g3) (fun h3 => ?_) (fun h3 => ?_)
        · exact absurd (by omega : False) id
        · have h3 := Classical.not_not.mp h3
          exact rfl
      · refine own_fork (own_not g4) (fun h4 => ?_) (fun h4 => ?_)
        · exact absurd (by omega : False) id
        · have h4 := Classical.not_not.mp h4
          exact rfl
    · refine own_fork g2 (fun h2 => ?_) (fun h2 => ?_)
      · refine own_fork (own_not g5) (fun q => absurd q (by decide)) (fun _ => ?_)
        exact rfl
      · refine own_fork (own_not g6) (fun h6 => ?_) (fun h6 => ?_)
        · exact absurd (by omega : False) id
        · have h6 := Classical.not_not.mp h6
          exact rfl
  · refine own_fork g2 (fun h2 => ?_) (fun h2 => ?_)
    · refine own_fork (own_not g5) (fun q => absurd q (by decide)) (fun _ => ?_)
      exact rfl
    · refine own_fork (own_not g6) (fun h6 => ?_) (fun h6 => ?_)
      · exact absurd (by omega : False) id
      · have h6 := Classical.not_not.mp h6
        exact rfl
set_option maxRecDepth 65536 in
set_option maxHeartbeats 4000000 in
theorem met_1 (l : Launch) : MeetsLoose l x (armSpec x code maxLocals ret tables_1 room_1 .tt (.and given_1 narrow_1) (.and limb_1_1 limb_1_2) frame_1_writes frame_1_arrays frame_1_statics) :=
  own_law (by decide) rfl rfl w0_walk (I0_calls l) rfl (by decide +kernel) (Tx := [.isLong (.op2 .ldiv (.long 9223372036854775807) (.op1 .i2l (own_tmax (.int 1) (.op2 .iand (.arg 1) (.int 2147483647)))))]) (D := [own0_g2]) (fun A s hA => by
    obtain ⟨v0, v1, rfl, q0, q1⟩ := own_k2 hA
    obtain ⟨a, rfl⟩ := own_long q0
    obtain ⟨c, rfl⟩ := own_int q1
    refine ⟨fun d hd => ?_, fun d hd => ?_⟩
    · rw [List.mem_singleton.mp hd]
      simp only [Cond.value, own_dt a c s]; rfl
    · rw [List.mem_singleton.mp hd]
      exact (own_lcmp_gt rfl (own_dt a c s) rfl rfl).dfn) (by decide +kernel) (by decide +kernel) (fun A s hA => by
    obtain ⟨v0, v1, rfl, q0, q1⟩ := own_k2 hA
    obtain ⟨a, rfl⟩ := own_long q0
    obtain ⟨c, rfl⟩ := own_int q1
    exact value0 a c s)
theorem main_1_1 : Claimed_1_1 := own_main (l0 := trivial) met_1 fun _ _ _ _ h => by simp only [Cond.after_and, Bool.and_eq_true] at h; exact h.1
theorem main_1_2 : Claimed_1_2 := own_main (l0 := trivial) met_1 fun _ _ _ _ h => by simp only [Cond.after_and, Bool.and_eq_true] at h; exact h.2
end Jvm.Pilot.@@N@@
namespace Jvm.Pilot.@@N@@
open Jvm Jvm.ClassFile Sem Op Lib Jvm.Free Jvm.Stand Jvm.Pilot.@@N@@.Jvm.D
/-! MADE BY PROGRAM (witnessworld.py) out of the Statement's table words and the real class files: 10 classes; the members and pool entries that the words name. The judged class is class 1, her method 1. -/
namespace start1
open Jvm.ClassFile
def u (s : String) : CpInfo := .utf8 (stringToUtf16 s)
/-- a pool by its gaps: so many unusable entries, then the entry; so many at the end -/
def gap : Nat → List CpInfo → List CpInfo
  | 0, r => r
  | n + 1, r => .unusable :: gap n r
def poolList (es : List (Nat × CpInfo)) (last : Nat) : List CpInfo := es.foldr (fun e r => gap e.1 (e.2 :: r)) (gap last [])
def pool (es : List (Nat × CpInfo)) (last : Nat) : Array CpInfo := ⟨poolList es last⟩
def fileOf (pool : Array CpInfo) (this : Nat) (attrs : Array Attribute := #[]) (ms : Array MethodInfo := #[]) (fl : Nat := 33) (sup : Nat := 0) (ifs : Array Nat := #[]) (fds : Array FieldInfo := #[]) : ClassFile where
  minorVersion := 0
  majorVersion := 65
  constantPool := pool
  accessFlags := fl
  thisClass := this
  superClass := sup
  interfaces := ifs
  fields := fds
  methods := ms
  attributes := attrs
def plain (name : String) (sup : Option ClassId) : Class where
  name := name
  kind := .ordinary
  loader := none
  accessFlags := 33
  super := sup
  interfaces := #[]
  cf := none
  fields := #[]
  methods := #[]
  instanceTypes := #[]
  staticTypes := #[]
  resolved := #[]
  callSites := []
  init := .initialized
  statics := none
  mirror := none

def pool0 : Array CpInfo := pool [(5, u "<init>"), (0, u "()V"), (1, .class_ 10), (1, u "java/lang/Object")] 113

def k0m0 : Method := { name := "<init>", desc := "()V", sig := { parameters := [], returnType := none }, accessFlags := 1, code := none }
/-- java/lang/Object -/
def k0 : Class := { plain "java/lang/Object" none with
  accessFlags := 33
  interfaces := #[]
  cf := some (fileOf pool0 8 #[] #[{ accessFlags := 1, nameIndex := 5, descriptorIndex := 6, attributes := #[] }] 33 0 #[] #[])
  fields := #[]
  methods := #[k0m0]
  instanceTypes := #[]
  staticTypes := #[]
  resolved := Array.replicate 124 none
  statics := none }

def pool1 : Array CpInfo := pool [(2, .class_ 4), (1, u "java/lang/Object"), (0, u "<init>"), (0, u "()V"), (2, .long 9223372036854775807), (1, .integer 2147483647), (0, .methodref 13 14), (0, .class_ 15), (0, .nameAndType 16 17), (0, u "java/lang/Math"), (0, u "max"), (0, u "(II)I"), (0, .long 4294967295), (1, .long 2147483648), (1, .methodref 23 24), (0, .class_ 25), (0, .nameAndType 26 27), (0, u "com/example/drip/drip/Nanos"), (0, u "times"), (0, u "(JI)J"), (0, .class_ 29), (0, u "com/example/drip/drip/NanosTimesPinLaw"), (2, u "law"), (0, u "(JI)Z")] 3

def k1m0 : Method := { name := "<init>", desc := "()V", sig := { parameters := [], returnType := none }, accessFlags := 2, code := none }
def k1c1 : Code := { maxStack := 4, maxLocals := 18, code := code, exceptionTable := #[], attributes := #[] }
def k1m1 : Method := { name := "law", desc := "(JI)Z", sig := { parameters := [.long, .int], returnType := some .boolean }, accessFlags := 9, code := some k1c1 }
/-- com/example/drip/drip/NanosTimesPinLaw -/
def k1 : Class := { plain "com/example/drip/drip/NanosTimesPinLaw" (some 0) with
  accessFlags := 49
  interfaces := #[]
  cf := some (fileOf pool1 28 #[] #[{ accessFlags := 2, nameIndex := 5, descriptorIndex := 6, attributes := #[] }, { accessFlags := 9, nameIndex := 32, descriptorIndex := 33, attributes := #[] }] 49 2 #[] #[])
  fields := #[]
  methods := #[k1m0, k1m1]
  instanceTypes := #[]
  staticTypes := #[]
  resolved := Array.replicate 37 none
  statics := none }

def pool2 : Array CpInfo := pool [(1, .class_ 2), (0, u "java/lang/Math"), (1, .class_ 6), (1, u "java/lang/Object"), (0, u "<init>"), (0, u "()V"), (89, .class_ 100), (1, u "java/lang/Math$RandomNumberGeneratorHolder"), (71, u "negativeZeroFloatBits"), (0, u "J"), (2, u "negativeZeroDoubleBits"), (21, u "max"), (46, u "$assertionsDisabled"), (0, u "Z"), (88, u "(II)I"), (2, u "twoToTheDoubleScaleDown"), (0, u "D"), (4, u "twoToTheDoubleScaleUp"), (9, u "E"), (3, u "PI"), (2, u "TAU"), (2, u "DEGREES_TO_RADIANS"), (0, u "RADIANS_TO_DEGREES")] 94

def k2m0 : Method := { name := "<init>", desc := "()V", sig := { parameters := [], returnType := none }, accessFlags := 2, code := none }
def k2c1 : Code := { maxStack := 2, maxLocals := 2, code := jdk_29_method_65_code, exceptionTable := #[], attributes := #[] }
def k2m1 : Method := { name := "max", desc := "(II)I", sig := { parameters := [.int, .int], returnType := some .int }, accessFlags := 9, code := some k2c1 }
/-- java/lang/Math -/
def k2 : Class := { plain "java/lang/Math" (some 0) with
  accessFlags := 49
  interfaces := #[]
  cf := some (fileOf pool2 1 #[.nestMembers #[98]] #[{ accessFlags := 2, nameIndex := 7, descriptorIndex := 8, attributes := #[] }, { accessFlags := 9, nameIndex := 198, descriptorIndex := 335, attributes := #[] }] 49 4 #[] #[{ accessFlags := 25, nameIndex := 354, descriptorIndex := 339, attributes := #[] }, { accessFlags := 25, nameIndex := 358, descriptorIndex := 339, attributes := #[] }, { accessFlags := 25, nameIndex := 361, descriptorIndex := 339, attributes := #[] }, { accessFlags := 26, nameIndex := 364, descriptorIndex := 339, attributes := #[] }, { accessFlags := 26, nameIndex := 365, descriptorIndex := 339, attributes := #[] }, { accessFlags := 26, nameIndex := 172, descriptorIndex := 173, attributes := #[] }, { accessFlags := 26, nameIndex := 176, descriptorIndex := 173, attributes := #[] }, { accessFlags := 8, nameIndex := 344, descriptorIndex := 339, attributes := #[] }, { accessFlags := 8, nameIndex := 338, descriptorIndex := 339, attributes := #[] }, { accessFlags := 4120, nameIndex := 245, descriptorIndex := 246, attributes := #[] }])
  fields := #[{ name := "E", type := .double, accessFlags := 25, slot := 0, constantValue := 0 }, { name := "PI", type := .double, accessFlags := 25, slot := 1, constantValue := 0 }, { name := "TAU", type := .double, accessFlags := 25, slot := 2, constantValue := 0 }, { name := "DEGREES_TO_RADIANS", type := .double, accessFlags := 26, slot := 3, constantValue := 0 }, { name := "RADIANS_TO_DEGREES", type := .double, accessFlags := 26, slot := 4, constantValue := 0 }, { name := "negativeZeroFloatBits", type := .long, accessFlags := 26, slot := 5, constantValue := 0 }, { name := "negativeZeroDoubleBits", type := .long, accessFlags := 26, slot := 6, constantValue := 0 }, { name := "twoToTheDoubleScaleUp", type := .double, accessFlags := 8, slot := 7, constantValue := 0 }, { name := "twoToTheDoubleScaleDown", type := .double, accessFlags := 8, slot := 8, constantValue := 0 }, { name := "$assertionsDisabled", type := .boolean, accessFlags := 4120, slot := 9, constantValue := 0 }]
  methods := #[k2m0, k2m1]
  instanceTypes := #[]
  staticTypes := #[.double, .double, .double, .double, .double, .long, .long, .double, .double, .boolean]
  resolved := Array.replicate 460 none
  statics := none }

def pool3 : Array CpInfo := pool [(2, .class_ 4), (1, u "java/lang/Object"), (0, u "<init>"), (0, u "()V"), (28, .class_ 37), (1, u "com/example/drip/drip/Nanos"), (0, u "LONGEST"), (0, u "Ljava/time/Duration;"), (6, .long 9223372036854775807), (19, u "times"), (0, u "(JI)J")] 19

def k3m0 : Method := { name := "<init>", desc := "()V", sig := { parameters := [], returnType := none }, accessFlags := 2, code := none }
def k3c1 : Code := { maxStack := 6, maxLocals := 3, code := prog_22_method_5_code, exceptionTable := #[], attributes := #[] }
def k3m1 : Method := { name := "times", desc := "(JI)J", sig := { parameters := [.long, .int], returnType := some .long }, accessFlags := 8, code := some k3c1 }
/-- com/example/drip/drip/Nanos -/
def k3 : Class := { plain "com/example/drip/drip/Nanos" (some 0) with
  accessFlags := 32
  interfaces := #[]
  cf := some (fileOf pool3 35 #[] #[{ accessFlags := 2, nameIndex := 5, descriptorIndex := 6, attributes := #[] }, { accessFlags := 8, nameIndex := 66, descriptorIndex := 67, attributes := #[] }] 32 2 #[] #[{ accessFlags := 26, nameIndex := 38, descriptorIndex := 39, attributes := #[] }])
  fields := #[{ name := "LONGEST", type := (.object "java/time/Duration"), accessFlags := 26, slot := 0, constantValue := 0 }]
  methods := #[k3m0, k3m1]
  instanceTypes := #[]
  staticTypes := #[(.object "java/time/Duration")]
  resolved := Array.replicate 87 none
  statics := none }

def pool4 : Array CpInfo := pool [(1, u "java/lang/Cloneable"), (0, .class_ 1), (0, u "java/lang/Object"), (0, .class_ 3)] 3

/-- java/lang/Cloneable -/
def k4 : Class := { plain "java/lang/Cloneable" (some 0) with
  accessFlags := 1537
  interfaces := #[]
  cf := some (fileOf pool4 2 #[] #[] 1537 4 #[] #[])
  fields := #[]
  methods := #[]
  instanceTypes := #[]
  staticTypes := #[]
  resolved := Array.replicate 8 none
  statics := none }

def pool5 : Array CpInfo := pool [(1, u "java/io/Serializable"), (0, .class_ 1), (0, u "java/lang/Object"), (0, .class_ 3)] 3

/-- java/io/Serializable -/
def k5 : Class := { plain "java/io/Serializable" (some 0) with
  accessFlags := 1537
  interfaces := #[]
  cf := some (fileOf pool5 2 #[] #[] 1537 4 #[] #[])
  fields := #[]
  methods := #[]
  instanceTypes := #[]
  staticTypes := #[]
  resolved := Array.replicate 8 none
  statics := none }

/-- the primitive byte -/
def k6 : Class := { plain "byte" none with kind := .primitive 'B', accessFlags := 0x411 }
/-- [B -/
def k7 : Class := { plain "[B" (some 0) with kind := .array 6 .byte, interfaces := #[4, 5], accessFlags := 1041 }

/-- the primitive int -/
def k8 : Class := { plain "int" none with kind := .primitive 'I', accessFlags := 0x411 }
/-- [I -/
def k9 : Class := { plain "[I" (some 0) with kind := .array 8 .int, interfaces := #[4, 5], accessFlags := 1041 }

def heap : Heap := #[]
def classes : Array Class := #[k0, k1, k2, k3, k4, k5, k6, k7, k8, k9]
def interned : List (Array UInt16 × Addr) := []
def slotsUsed : Nat := 0
def theMethod : MethodId := ⟨1, 1⟩
def args0 : Array Value := #[.long 5, .int 300]
def aboutOver (below : List Frame) : State where
  vm := { classes := classes, interned := interned.toArray }
  heap := heap
  slotsUsed := slotsUsed
  threads := #[{ frames := .invoking theMethod args0 :: below }]
def below0 : List Frame := [.native { method := ⟨0, 0⟩, args := #[] }]
def about1 : State := aboutOver below0
def p0 : Program := .bare "" "" ""
def e0 : Env := launch0.env 0 0 0
theorem w_frames : about1.frames = Frame.invoking theMethod args0 :: below0 := rfl
set_option maxRecDepth 65536 in
theorem w_args : argsFit about1.vm theMethod args0 = true := by decide +kernel
set_option maxRecDepth 65536 in
theorem w_heap : heapFits about1 = true := by decide +kernel
set_option maxRecDepth 65536 in
theorem w_runnable : about1.curStatus? = some .runnable := by decide +kernel
set_option maxRecDepth 65536 in
theorem w_alone : about1.alone = true := by decide +kernel
set_option maxRecDepth 65536 in
theorem w_named : about1.methodNamed? x = some theMethod := by decide +kernel
set_option maxRecDepth 65536 in
theorem w_hears : about1.hears theMethod below0 = true := by decide +kernel
set_option maxRecDepth 65536 in
theorem w_ripe : about1.ripe theMethod args0 below0 = true := by decide +kernel
theorem w_running : about1.status = .running := rfl
set_option maxRecDepth 65536 in
theorem w_room : about1.hasRoom e0.platform room_1 = true :=
  launch0.hasRoom_least _ room_1 (by decide +kernel) (by decide +kernel) (by decide +kernel) (by decide +kernel) (by decide +kernel) (by decide +kernel)
theorem allAtoms_all (ts : List Jvm.Cond) (a : Array Jvm.Value) (st : Jvm.State) : (allAtoms ts).before a st = ts.all (fun c => c.before a st) := by
  induction ts with
  | nil => rfl
  | cons c t ih =>
    show (Jvm.Cond.and c (allAtoms t)).before a st = _
    rw [Jvm.Cond.before_and, ih, List.all_cons]
def words1 : List Jvm.Cond := Jvm.Cond.code x code maxLocals ret :: tables_1
/-- a 'code' word, met by the world's own term for the bytes: nothing is compared byte by byte -/
theorem code_word {y : MethodName} {bytes : ByteArray} {mx : Nat} {rt : Option FieldType} {a : Array Value} {s : State} {m : MethodId} {meth : Method} {c : Code} (h1 : s.methodNamed? y = some m) (h2 : s.vm.method? m = some meth) (h3 : meth.code = some c) (h4 : c.code = bytes)
    (h5 : (c.maxLocals == mx && c.exceptionTable.isEmpty && decide (c.maxStack ≤ mostOperands) && decide (meth.sig.returnType = rt) && !meth.locks && decide (parseMethodDescriptor y.desc = some meth.sig)) = true) : (Jvm.Cond.code y bytes mx rt).before a s = true := by
  simp only [Bool.and_eq_true, beq_iff_eq, Bool.not_eq_true', decide_eq_true_eq] at h5
  obtain ⟨⟨⟨⟨⟨g1, g2⟩, g3⟩, g4⟩, g5⟩, g6⟩ := h5
  simp [Cond.before, Cond.holds, Cond.value, h1, h2, h3, h4, g1, g2, g3, g4, g5, g6]
def isCode : Jvm.Cond → Bool
  | .code _ _ _ _ => true
  | _ => false
theorem all_split {L : List Jvm.Cond} {P : Jvm.Cond → Bool} (h1 : L.all (fun c => isCode c || P c) = true) (h2 : ∀ c ∈ L.filter isCode, P c = true) : L.all P = true := by
  refine List.all_eq_true.mpr fun c hc => ?_
  have h := List.all_eq_true.mp h1 c hc
  rcases Bool.eq_false_or_eq_true (isCode c) with hi | hi
  · exact h2 c (List.mem_filter.mpr ⟨hc, hi⟩)
  · simpa [hi] using h
set_option maxRecDepth 65536 in
theorem w_c0 : (Jvm.Cond.code x code maxLocals ret).before args0 about1 = true := code_word (m := ⟨1, 1⟩) (meth := k1m1) (c := k1c1) (by decide +kernel) rfl rfl rfl (by decide +kernel)
set_option maxRecDepth 65536 in
theorem w_c1 : (Jvm.Cond.code ({ cls := "java/lang/Math", name := "max", desc := "(II)I" } : Jvm.MethodName) jdk_29_method_65_code (2 : Nat) (Option.some Jvm.ClassFile.FieldType.int)).before args0 about1 = true := code_word (m := ⟨2, 1⟩) (meth := k2m1) (c := k2c1) (by decide +kernel) rfl rfl rfl (by decide +kernel)
set_option maxRecDepth 65536 in
theorem w_c2 : (Jvm.Cond.code ({ cls := "com/example/drip/drip/Nanos", name := "times", desc := "(JI)J" } : Jvm.MethodName) prog_22_method_5_code (3 : Nat) (Option.some Jvm.ClassFile.FieldType.long)).before args0 about1 = true := code_word (m := ⟨3, 1⟩) (meth := k3m1) (c := k3c1) (by decide +kernel) rfl rfl rfl (by decide +kernel)
def codes1 : List Jvm.Cond := [Jvm.Cond.code x code maxLocals ret, Jvm.Cond.code ({ cls := "java/lang/Math", name := "max", desc := "(II)I" } : Jvm.MethodName) jdk_29_method_65_code (2 : Nat) (Option.some Jvm.ClassFile.FieldType.int), Jvm.Cond.code ({ cls := "com/example/drip/drip/Nanos", name := "times", desc := "(JI)J" } : Jvm.MethodName) prog_22_method_5_code (3 : Nat) (Option.some Jvm.ClassFile.FieldType.long)]
set_option maxRecDepth 65536 in
theorem codes_eq : words1.filter isCode = codes1 := rfl
theorem w_codes : ∀ c ∈ words1.filter isCode, c.before args0 about1 = true := by
  rw [codes_eq]
  intro c hc
  simp only [codes1, List.mem_cons, List.not_mem_nil, or_false] at hc
  rcases hc with rfl | rfl | rfl
  · exact w_c0
  · exact w_c1
  · exact w_c2
set_option maxRecDepth 65536 in
theorem w_t1 : words1.all (fun c => isCode c || c.before args0 about1) = true := by decide +kernel
theorem w_tables : (allAtoms (Jvm.Cond.code x code maxLocals ret :: tables_1)).before args0 about1 = true := by
  rw [allAtoms_all]
  show words1.all (fun c => c.before args0 about1) = true
  refine all_split ?_ w_codes
  rw [w_t1]
set_option maxRecDepth 65536 in
theorem w_case : (Jvm.Cond.and given_1 narrow_1).before args0 about1 = true := by decide +kernel
theorem w_applies : (headSpec (Jvm.Cond.code x code maxLocals ret :: tables_1) room_1).applies x e0.platform about1 = true :=
  (Spec.applies_iff w_frames).mpr ⟨w_running, w_runnable, w_alone, w_named, w_hears, w_ripe, w_room, w_tables⟩
theorem atStart : AtStart classFile x code maxLocals ret World_1 tables_1 room_1 Calls_1 rest_1 Pre_1 launch0 p0 e0 about1 theMethod args0 below0 :=
  ⟨lists_1, trivial, launch0.admits_env _ _ _, launch0.least_env, fairChoices_fair.cas, fairChoices_fair.clock, w_frames, w_args, w_heap, w_applies, trivial, trivial, w_case⟩
end start1
theorem witness_1 : WitnessClaimed_1 := ⟨start1.p0, start1.e0, start1.about1, start1.theMethod, start1.args0, start1.below0, start1.atStart⟩
end Jvm.Pilot.@@N@@
