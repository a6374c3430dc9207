import JvmDerived
import JvmDerived.Pilot.@@N@@Statement
import JvmDerived.Pilot.@@N@@Code
set_option linter.unusedVariables false
set_option linter.unusedSimpArgs false
@@BLOCK:HandJ.lean.txt@@
@@BLOCK:HandW.lean.txt@@
@@BLOCK:HandBits.lean.txt@@
@@BLOCK:SymRun.lean.txt@@
@@BLOCK:RowBasics.lean.txt@@
@@BLOCK:Bridge.lean.txt@@
@@BLOCK:SymKit.lean.txt@@
@@BLOCK:SymWays.lean.txt@@
@@BLOCK:NumsL.lean.txt@@
@@BLOCK:Masks.lean.txt@@
namespace Jvm.Pilot.@@N@@
open Jvm Jvm.ClassFile Sem Op Jvm.Sym Jvm.Pilot.@@N@@.Jvm.D

/-! own 1: arguments by their kinds -/
def own_KL : List VKind → List Value → Prop
  | [], [] => True
  | k :: ks, v :: vs => k.ok v = true ∧ own_KL ks vs
  | _, _ => False
def own_Kinds (ks : List VKind) (A : Array Value) : Prop := own_KL ks A.toList
theorem own_KL_get : ∀ {ks : List VKind} {vs : List Value}, own_KL ks vs → ∀ {i : Nat} {k : VKind}, ks[i]? = some k → ∃ v, vs[i]? = some v ∧ k.ok v = true
  | [], [], _, i, k, h => by simp at h
  | k0 :: ks, v0 :: vs, hh, 0, k, h => by
    simp at h; subst h; exact ⟨v0, by simp, hh.1⟩
  | k0 :: ks, v0 :: vs, hh, i + 1, k, h => by
    simp at h; obtain ⟨v, h1, h2⟩ := own_KL_get hh.2 h; exact ⟨v, by simpa using h1, h2⟩
  | [], _ :: _, hh, _, _, _ => hh.elim
  | _ :: _, [], hh, _, _, _ => hh.elim
theorem own_KL_len : ∀ {ks : List VKind} {vs : List Value}, own_KL ks vs → vs.length = ks.length
  | [], [], _ => rfl
  | k0 :: ks, v0 :: vs, hh => by simp [own_KL_len hh.2]
  | [], _ :: _, hh => hh.elim
  | _ :: _, [], hh => hh.elim
theorem own_Kinds.get {ks : List VKind} {A : Array Value} (h : own_Kinds ks A) {i : Nat} {k : VKind} (hk : ks[i]? = some k) : ∃ v, A[i]? = some v ∧ k.ok v = true := by
  obtain ⟨v, h1, h2⟩ := own_KL_get h hk
  exact ⟨v, by rwa [Array.getElem?_toList] at h1, h2⟩
theorem own_Kinds.size {ks : List VKind} {A : Array Value} (h : own_Kinds ks A) : A.size = ks.length := by
  have := own_KL_len h
  simpa using this
theorem own_KL_sorts {A : Array Value} {s : State} : ∀ (ks : List VKind) (i : Nat) (vs : List Value), (∀ j, A[i + j]? = vs[j]?) → vs.length = ks.length → (∀ q ∈ Sym.sorts i ks, q.before A s = true) → own_KL ks vs
  | [], _, [], _, _, _ => trivial
  | [], _, _ :: _, _, h, _ => by simp at h
  | _ :: _, _, [], _, h, _ => by simp at h
  | k :: ks, i, v :: vs, hA, hl, hq => by
    have h0 := hq (isK k (.arg i)) (by simp [Sym.sorts])
    obtain ⟨w, e, ok⟩ := isK_spec h0
    have e0 := hA 0
    simp only [Nat.add_zero, List.getElem?_cons_zero] at e0
    have e1 : A[i]? = some w := e
    rw [e0] at e1
    cases e1
    refine ⟨ok, own_KL_sorts ks (i + 1) vs (fun j => ?_) (by simpa using hl) (fun q h => hq q (by simp [Sym.sorts]; exact Or.inr h))⟩
    have := hA (j + 1)
    rw [List.getElem?_cons_succ] at this
    rw [← this]; congr 1; omega
theorem own_Kinds_of {A : Array Value} {s : State} {ks : List VKind} (hn : A.size = ks.length) (hq : ∀ q ∈ Sym.sorts 0 ks, q.before A s = true) : own_Kinds ks A :=
  own_KL_sorts ks 0 A.toList (fun j => by simp) (by simpa using hn) hq
theorem own_Kinds.sorts {A : Array Value} {s : State} : ∀ {ks : List VKind} {vs : List Value} (i : Nat), (∀ j, A[i + j]? = vs[j]?) → own_KL ks vs → ∀ q ∈ Sym.sorts i ks, q.before A s = true
  | [], [], _, _, _, q, hq => by cases hq
  | [], _ :: _, _, _, hh, _, _ => hh.elim
  | _ :: _, [], _, _, hh, _, _ => hh.elim
  | k :: ks, v :: vs, i, hA, hh, q, hq => by
    have e0 := hA 0
    simp only [Nat.add_zero, List.getElem?_cons_zero] at e0
    rcases List.mem_cons.mp hq with rfl | hq
    · cases k <;> cases v <;> first | (have := hh.1; simp [VKind.ok] at this; done) | simp [isK, Cond.before, Cond.holds, Cond.value, Term.eval, e0]
    · refine own_Kinds.sorts (i + 1) (fun j => ?_) hh.2 q hq
      have := hA (j + 1)
      rw [List.getElem?_cons_succ] at this
      rw [← this]; congr 1; omega
theorem own_int {v : Value} (h : VKind.int.ok v = true) : ∃ a : Int32, v = .int a := by cases v <;> simp [VKind.ok] at h <;> exact ⟨_, rfl⟩
theorem own_long {v : Value} (h : VKind.long.ok v = true) : ∃ a : Int64, v = .long a := by cases v <;> simp [VKind.ok] at h <;> exact ⟨_, rfl⟩
theorem own_k1 {k0 : VKind} {A : Array Value} (h : own_Kinds [k0] A) : ∃ v0, A = #[v0] ∧ k0.ok v0 = true := by
  obtain ⟨L⟩ := A
  match L, h with
  | [v0], h => exact ⟨v0, rfl, h.1⟩
theorem own_k2 {k0 k1 : VKind} {A : Array Value} (h : own_Kinds [k0, k1] A) : ∃ v0 v1, A = #[v0, v1] ∧ k0.ok v0 = true ∧ k1.ok v1 = true := by
  obtain ⟨L⟩ := A
  match L, h with
  | [v0, v1], h => exact ⟨v0, v1, rfl, h.1, h.2.1⟩
theorem own_k3 {k0 k1 k2 : VKind} {A : Array Value} (h : own_Kinds [k0, k1, k2] A) : ∃ v0 v1 v2, A = #[v0, v1, v2] ∧ k0.ok v0 = true ∧ k1.ok v1 = true ∧ k2.ok v2 = true := by
  obtain ⟨L⟩ := A
  match L, h with
  | [v0, v1, v2], h => exact ⟨v0, v1, v2, rfl, h.1, h.2.1, h.2.2.1⟩
theorem own_k4 {k0 k1 k2 k3 : VKind} {A : Array Value} (h : own_Kinds [k0, k1, k2, k3] A) : ∃ v0 v1 v2 v3, A = #[v0, v1, v2, v3] ∧ k0.ok v0 = true ∧ k1.ok v1 = true ∧ k2.ok v2 = true ∧ k3.ok v3 = true := by
  obtain ⟨L⟩ := A
  match L, h with
  | [v0, v1, v2, v3], h => exact ⟨v0, v1, v2, v3, rfl, h.1, h.2.1, h.2.2.1, h.2.2.2.1⟩

theorem own_k5 {k0 k1 k2 k3 k4 : VKind} {A : Array Value} (h : own_Kinds [k0, k1, k2, k3, k4] A) : ∃ v0 v1 v2 v3 v4, A = #[v0, v1, v2, v3, v4] ∧ k0.ok v0 = true ∧ k1.ok v1 = true ∧ k2.ok v2 = true ∧ k3.ok v3 = true ∧ k4.ok v4 = true := by
  obtain ⟨L⟩ := A
  match L, h with
  | [v0, v1, v2, v3, v4], h => exact ⟨v0, v1, v2, v3, v4, rfl, h.1, h.2.1, h.2.2.1, h.2.2.2.1, h.2.2.2.2.1⟩
theorem own_k6 {k0 k1 k2 k3 k4 k5 : VKind} {A : Array Value} (h : own_Kinds [k0, k1, k2, k3, k4, k5] A) : ∃ v0 v1 v2 v3 v4 v5, A = #[v0, v1, v2, v3, v4, v5] ∧ k0.ok v0 = true ∧ k1.ok v1 = true ∧ k2.ok v2 = true ∧ k3.ok v3 = true ∧ k4.ok v4 = true ∧ k5.ok v5 = true := by
  obtain ⟨L⟩ := A
  match L, h with
  | [v0, v1, v2, v3, v4, v5], h => exact ⟨v0, v1, v2, v3, v4, v5, rfl, h.1, h.2.1, h.2.2.1, h.2.2.2.1, h.2.2.2.2.1, h.2.2.2.2.2.1⟩

/-! own 2: a term's kind, read off its shape -/
def own_ty2 : Binary → Option VKind → Option VKind → Option VKind
  | .iand, some .int, some .int => some .int
  | .ior, some .int, some .int => some .int
  | .ixor, some .int, some .int => some .int
  | .ishl, some .int, some .int => some .int
  | .ishr, some .int, some .int => some .int
  | .iushr, some .int, some .int => some .int
  | .ladd, some .long, some .long => some .long
  | .lsub, some .long, some .long => some .long
  | .lmul, some .long, some .long => some .long
  | .land, some .long, some .long => some .long
  | .lor, some .long, some .long => some .long
  | .lxor, some .long, some .long => some .long
  | .lcmp, some .long, some .long => some .int
  | .lshl, some .long, some .int => some .long
  | .lshr, some .long, some .int => some .long
  | .lushr, some .long, some .int => some .long
  | _, _, _ => none
def own_ty1 : Unary → Option VKind → Option VKind
  | .ineg, some .int => some .int
  | .i2b, some .int => some .int
  | .i2c, some .int => some .int
  | .i2s, some .int => some .int
  | .i2l, some .int => some .long
  | .l2i, some .long => some .int
  | .lneg, some .long => some .long
  | _, _ => none
def own_ii : Option VKind → Option VKind → Option VKind
  | some .int, some .int => some .int
  | _, _ => none
def own_ty (ks : List VKind) : Term → Option VKind
  | .arg i => ks[i]?
  | .int _ => some .int
  | .long _ => some .long
  | .add a b => own_ii (own_ty ks a) (own_ty ks b)
  | .sub a b => own_ii (own_ty ks a) (own_ty ks b)
  | .mul a b => own_ii (own_ty ks a) (own_ty ks b)
  | .op2 f a b => own_ty2 f (own_ty ks a) (own_ty ks b)
  | .op1 f a => own_ty1 f (own_ty ks a)
  | .old t => own_ty ks t
  | _ => none
theorem own_ty2_sound {f : Binary} {a b : Option VKind} {k : VKind} (h : own_ty2 f a b = some k) : ∃ ka kb, a = some ka ∧ b = some kb ∧ ∀ x y, ka.ok x = true → kb.ok y = true → ∃ z, f.apply x y = some z ∧ k.ok z = true := by
  unfold own_ty2 at h
  split at h <;> first
    | (cases h; refine ⟨_, _, rfl, rfl, fun x y hx hy => ?_⟩; cases x <;> simp [VKind.ok] at hx <;> cases y <;> simp [VKind.ok] at hy <;> exact ⟨_, rfl, rfl⟩)
    | cases h
theorem own_ty1_sound {f : Unary} {a : Option VKind} {k : VKind} (h : own_ty1 f a = some k) : ∃ ka, a = some ka ∧ ∀ x, ka.ok x = true → ∃ z, f.apply x = some z ∧ k.ok z = true := by
  unfold own_ty1 at h
  split at h <;> first
    | (cases h; refine ⟨_, rfl, fun x hx => ?_⟩; cases x <;> simp [VKind.ok] at hx <;> exact ⟨_, rfl, rfl⟩)
    | cases h
theorem own_ii_sound {a b : Option VKind} {k : VKind} (h : own_ii a b = some k) : k = .int ∧ a = some .int ∧ b = some .int := by
  unfold own_ii at h
  split at h
  · cases h; exact ⟨rfl, rfl, rfl⟩
  · cases h
theorem own_ty_sound {ks : List VKind} {A : Array Value} {s : State} (hA : own_Kinds ks A) : ∀ (t : Term) {k : VKind}, own_ty ks t = some k → ∃ v, t.eval A s none [] s = some v ∧ k.ok v = true
  | .arg i, k, h => hA.get h
  | .int v, k, h => by cases h; exact ⟨_, rfl, rfl⟩
  | .long v, k, h => by cases h; exact ⟨_, rfl, rfl⟩
  | .add a b, k, h => by
    obtain ⟨rfl, ha, hb⟩ := own_ii_sound h
    obtain ⟨x, ex, hx⟩ := own_ty_sound (s := s) hA a ha
    obtain ⟨y, ey, hy⟩ := own_ty_sound (s := s) hA b hb
    obtain ⟨x, rfl⟩ := own_int hx
    obtain ⟨y, rfl⟩ := own_int hy
    exact ⟨.int (x + y), by simp [Term.eval, ex, ey], rfl⟩
  | .sub a b, k, h => by
    obtain ⟨rfl, ha, hb⟩ := own_ii_sound h
    obtain ⟨x, ex, hx⟩ := own_ty_sound (s := s) hA a ha
    obtain ⟨y, ey, hy⟩ := own_ty_sound (s := s) hA b hb
    obtain ⟨x, rfl⟩ := own_int hx
    obtain ⟨y, rfl⟩ := own_int hy
    exact ⟨.int (x - y), by simp [Term.eval, ex, ey], rfl⟩
  | .mul a b, k, h => by
    obtain ⟨rfl, ha, hb⟩ := own_ii_sound h
    obtain ⟨x, ex, hx⟩ := own_ty_sound (s := s) hA a ha
    obtain ⟨y, ey, hy⟩ := own_ty_sound (s := s) hA b hb
    obtain ⟨x, rfl⟩ := own_int hx
    obtain ⟨y, rfl⟩ := own_int hy
    exact ⟨.int (x * y), by simp [Term.eval, ex, ey], rfl⟩
  | .op2 f a b, k, h => by
    obtain ⟨ka, kb, ha, hb, hf⟩ := own_ty2_sound (show own_ty2 f (own_ty ks a) (own_ty ks b) = some k from h)
    obtain ⟨x, ex, hx⟩ := own_ty_sound (s := s) hA a ha
    obtain ⟨y, ey, hy⟩ := own_ty_sound (s := s) hA b hb
    obtain ⟨z, ez, hz⟩ := hf x y hx hy
    exact ⟨z, by simp [Term.eval, ex, ey, ez], hz⟩
  | .op1 f a, k, h => by
    obtain ⟨ka, ha, hf⟩ := own_ty1_sound (show own_ty1 f (own_ty ks a) = some k from h)
    obtain ⟨x, ex, hx⟩ := own_ty_sound (s := s) hA a ha
    obtain ⟨z, ez, hz⟩ := hf x hx
    exact ⟨z, by simp [Term.eval, ex, ez], hz⟩
  | .old t, k, h => by
    obtain ⟨x, ex, hx⟩ := own_ty_sound (s := s) hA t (show own_ty ks t = some k from h)
    exact ⟨x, by simpa [Term.eval] using ex, hx⟩
  | .null, _, h => by cases h
  | .index _, _, h => by cases h
  | .field _ _ _ _, _, h => by cases h
  | .static _ _ _, _, h => by cases h
  | .string _ _, _, h => by cases h
  | .mirror _, _, h => by cases h
  | .length _, _, h => by cases h
  | .elem _ _, _, h => by cases h
  | .div _ _, _, h => by cases h
  | .rem _ _, _, h => by cases h
  | .sum _, _, h => by cases h
  | .result, _, h => by cases h
  | .thrown, _, h => by cases h

/-! own 3: the needs of a walk, paid by one check: each stands under guards that are worth something whatever way they go -/
def own_num (ks : List VKind) (a b : Term) : Bool := (own_ty ks a == some .int && own_ty ks b == some .int) || (own_ty ks a == some .long && own_ty ks b == some .long)
def own_dfn (ks : List VKind) (D : List Cond) : Cond → Bool
  | .not c => own_dfn ks D c
  | .eq a b => D.contains (.eq a b) || own_num ks a b
  | .lt a b => D.contains (.lt a b) || own_num ks a b
  | .le a b => D.contains (.le a b) || own_num ks a b
  | .and a b => own_dfn ks D a && own_dfn ks D b
  | .or a b => own_dfn ks D a && own_dfn ks D b
  | .tt => true
  | _ => false
def own_chk (ks : List VKind) (T D : List Cond) : Cond → Bool
  | .tt => true
  | .and a b => T.contains (.and a b) || (own_chk ks T D a && own_chk ks T D b)
  | .or a b => T.contains (.or a b) || (own_dfn ks D a && own_chk ks T D b)
  | .isInt t => T.contains (.isInt t) || own_ty ks t == some .int
  | .isLong t => T.contains (.isLong t) || own_ty ks t == some .long
  | c => T.contains c
theorem own_num_sound {ks : List VKind} {A : Array Value} {s : State} (hA : own_Kinds ks A) {a b : Term} (h : own_num ks a b = true) :
    (∃ x y : Int32, a.eval A s none [] s = some (.int x) ∧ b.eval A s none [] s = some (.int y)) ∨ (∃ x y : Int64, a.eval A s none [] s = some (.long x) ∧ b.eval A s none [] s = some (.long y)) := by
  simp only [own_num, Bool.or_eq_true, Bool.and_eq_true, beq_iff_eq] at h
  rcases h with ⟨ha, hb⟩ | ⟨ha, hb⟩
  · obtain ⟨v, ev, hv⟩ := own_ty_sound (s := s) hA a ha
    obtain ⟨w, ew, hw⟩ := own_ty_sound (s := s) hA b hb
    obtain ⟨x, rfl⟩ := own_int hv
    obtain ⟨y, rfl⟩ := own_int hw
    exact Or.inl ⟨x, y, ev, ew⟩
  · obtain ⟨v, ev, hv⟩ := own_ty_sound (s := s) hA a ha
    obtain ⟨w, ew, hw⟩ := own_ty_sound (s := s) hA b hb
    obtain ⟨x, rfl⟩ := own_long hv
    obtain ⟨y, rfl⟩ := own_long hw
    exact Or.inr ⟨x, y, ev, ew⟩
theorem own_dfn_sound {ks : List VKind} {D : List Cond} {A : Array Value} {s : State} (hA : own_Kinds ks A) (hD : ∀ c ∈ D, ∃ b, c.value A s none s [] = some b) : ∀ (c : Cond), own_dfn ks D c = true → ∃ b, c.value A s none s [] = some b := by
  intro c
  induction c with
  | tt => intro _; exact ⟨true, rfl⟩
  | not c ih => intro h; obtain ⟨b, e⟩ := ih h; exact ⟨!b, by simp [Cond.value, e]⟩
  | and a b iha ihb =>
    intro h
    simp only [own_dfn, Bool.and_eq_true] at h
    obtain ⟨x, ex⟩ := iha h.1
    obtain ⟨y, ey⟩ := ihb h.2
    cases x
    · exact ⟨false, by simp [Cond.value, ex]⟩
    · exact ⟨y, by simp [Cond.value, ex, ey]⟩
  | or a b iha ihb =>
    intro h
    simp only [own_dfn, Bool.and_eq_true] at h
    obtain ⟨x, ex⟩ := iha h.1
    obtain ⟨y, ey⟩ := ihb h.2
    cases x
    · exact ⟨y, by simp [Cond.value, ex, ey]⟩
    · exact ⟨true, by simp [Cond.value, ex]⟩
  | eq a b =>
    intro h
    simp only [own_dfn, Bool.or_eq_true] at h
    rcases h with h | h
    · exact hD _ (List.contains_iff_mem.mp h)
    · rcases own_num_sound (s := s) hA h with ⟨x, y, e1, e2⟩ | ⟨x, y, e1, e2⟩ <;> simp only [Cond.value, e1, e2] <;> exact ⟨_, rfl⟩
  | lt a b =>
    intro h
    simp only [own_dfn, Bool.or_eq_true] at h
    rcases h with h | h
    · exact hD _ (List.contains_iff_mem.mp h)
    · rcases own_num_sound (s := s) hA h with ⟨x, y, e1, e2⟩ | ⟨x, y, e1, e2⟩ <;> simp only [Cond.value, e1, e2] <;> exact ⟨_, rfl⟩
  | le a b =>
    intro h
    simp only [own_dfn, Bool.or_eq_true] at h
    rcases h with h | h
    · exact hD _ (List.contains_iff_mem.mp h)
    · rcases own_num_sound (s := s) hA h with ⟨x, y, e1, e2⟩ | ⟨x, y, e1, e2⟩ <;> simp only [Cond.value, e1, e2] <;> exact ⟨_, rfl⟩
  | _ => intro h; simp [own_dfn] at h
theorem own_chk_sound {ks : List VKind} {T D : List Cond} {A : Array Value} {s : State} (hA : own_Kinds ks A) (hT : ∀ c ∈ T, c.value A s none s [] = some true) (hD : ∀ c ∈ D, ∃ b, c.value A s none s [] = some b) :
    ∀ (c : Cond), own_chk ks T D c = true → c.value A s none s [] = some true := by
  intro c
  induction c with
  | tt => intro _; rfl
  | and a b iha ihb =>
    intro h
    simp only [own_chk, Bool.or_eq_true, Bool.and_eq_true] at h
    rcases h with h | h
    · exact hT _ (List.contains_iff_mem.mp h)
    · simp [Cond.value, iha h.1, ihb h.2]
  | or a b iha ihb =>
    intro h
    simp only [own_chk, Bool.or_eq_true, Bool.and_eq_true] at h
    rcases h with h | h
    · exact hT _ (List.contains_iff_mem.mp h)
    · obtain ⟨x, ex⟩ := own_dfn_sound (s := s) hA hD a h.1
      cases x
      · simp [Cond.value, ex, ihb h.2]
      · simp [Cond.value, ex]
  | isInt t =>
    intro h
    simp only [own_chk, Bool.or_eq_true, beq_iff_eq] at h
    rcases h with h | h
    · exact hT _ (List.contains_iff_mem.mp h)
    · obtain ⟨v, ev, hv⟩ := own_ty_sound (s := s) hA t h
      obtain ⟨x, rfl⟩ := own_int hv
      simp [Cond.value, ev]
  | isLong t =>
    intro h
    simp only [own_chk, Bool.or_eq_true, beq_iff_eq] at h
    rcases h with h | h
    · exact hT _ (List.contains_iff_mem.mp h)
    · obtain ⟨v, ev, hv⟩ := own_ty_sound (s := s) hA t h
      obtain ⟨x, rfl⟩ := own_long hv
      simp [Cond.value, ev]
  | _ =>
    intro h
    simp only [own_chk] at h
    exact hT _ (List.contains_iff_mem.mp h)

/-! own 4: what a guard is worth, as a proposition on plain integers; a tree followed by it -/
def own_Is (A : Array Value) (s : State) (G : Cond) (P : Prop) : Prop := (P → G.value A s none s [] = some true) ∧ (¬ P → G.value A s none s [] = some false)
section
variable {A : Array Value} {s : State} {G : Cond} {P : Prop} {ta tb : Term} {a b : STree} {w : Value} {X Y : Int}
theorem own_Is.dfn (h : own_Is A s G P) : ∃ b, G.value A s none s [] = some b := by
  by_cases p : P
  · exact ⟨_, h.1 p⟩
  · exact ⟨_, h.2 p⟩
theorem own_fork (h : own_Is A s G P) (ha : P → Kit.valueOf A s a = some w) (hb : ¬ P → Kit.valueOf A s b = some w) : Kit.valueOf A s (.fork G a b) = some w := by
  by_cases p : P
  · simp only [Kit.valueOf, h.1 p]; exact ha p
  · simp only [Kit.valueOf, h.2 p]; exact hb p
theorem own_not (h : own_Is A s G P) : own_Is A s (.not G) (¬ P) :=
  ⟨fun p => by simp [Cond.value, h.2 p], fun p => by simp [Cond.value, h.1 (Classical.not_not.mp p)]⟩
theorem own_of_decide {Q : Prop} [Decidable Q] (h : G.value A s none s [] = some (decide Q)) (hq : Q ↔ P) : own_Is A s G P :=
  ⟨fun p => by rw [h, decide_eq_true (hq.mpr p)], fun p => by rw [h, decide_eq_false (fun q => p (hq.mp q))]⟩
theorem own_lt_i {x y : Int32} (ha : ta.eval A s none [] s = some (.int x)) (hb : tb.eval A s none [] s = some (.int y)) (hX : x.toInt = X) (hY : y.toInt = Y) : own_Is A s (.lt ta tb) (X < Y) :=
  own_of_decide (Q := x < y) (by simp only [Cond.value, ha, hb]) (by rw [Int32.lt_iff_toInt_lt, hX, hY])
theorem own_le_i {x y : Int32} (ha : ta.eval A s none [] s = some (.int x)) (hb : tb.eval A s none [] s = some (.int y)) (hX : x.toInt = X) (hY : y.toInt = Y) : own_Is A s (.le ta tb) (X ≤ Y) :=
  own_of_decide (Q := x ≤ y) (by simp only [Cond.value, ha, hb]) (by rw [Int32.le_iff_toInt_le, hX, hY])
theorem own_eq_i {x y : Int32} (ha : ta.eval A s none [] s = some (.int x)) (hb : tb.eval A s none [] s = some (.int y)) (hX : x.toInt = X) (hY : y.toInt = Y) : own_Is A s (.eq ta tb) (X = Y) :=
  own_of_decide (Q := x = y) (by simp only [Cond.value, ha, hb]) (by rw [← Int32.toInt_inj, hX, hY])
theorem own_lcmp_eval {x y : Int64} (ha : ta.eval A s none [] s = some (.long x)) (hb : tb.eval A s none [] s = some (.long y)) : (Term.old (.op2 .lcmp ta tb)).eval A s none [] s = some (.int (if x > y then 1 else if x == y then 0 else -1)) := by
  simp only [Term.eval, ha, hb]; rfl
theorem own_lcmp_cases (x y : Int64) : (y.toInt < x.toInt ∧ (if x > y then (1 : Int32) else if x == y then 0 else -1) = 1) ∨ (x.toInt = y.toInt ∧ (if x > y then (1 : Int32) else if x == y then 0 else -1) = 0) ∨ (x.toInt < y.toInt ∧ (if x > y then (1 : Int32) else if x == y then 0 else -1) = -1) := by
  by_cases h : y < x
  · exact Or.inl ⟨Int64.lt_iff_toInt_lt.mp h, by simp [h]⟩
  · by_cases h2 : x = y
    · exact Or.inr (Or.inl ⟨by rw [h2], by subst h2; simp [Int64.lt_irrefl]⟩)
    · refine Or.inr (Or.inr ⟨?_, by simp [h, h2]⟩)
      rw [Int64.lt_iff_toInt_lt] at h
      rw [← Int64.toInt_inj] at h2
      omega
theorem own_lcmp_lt {x y : Int64} (ha : ta.eval A s none [] s = some (.long x)) (hb : tb.eval A s none [] s = some (.long y)) (hX : x.toInt = X) (hY : y.toInt = Y) : own_Is A s (.lt (.old (.op2 .lcmp ta tb)) (.int 0)) (X < Y) :=
  own_of_decide (Cond.lt_ints (own_lcmp_eval ha hb) rfl) (by subst hX hY; rcases own_lcmp_cases x y with ⟨h, e⟩ | ⟨h, e⟩ | ⟨h, e⟩ <;> rw [e] <;> simp <;> omega)
theorem own_lcmp_gt {x y : Int64} (ha : ta.eval A s none [] s = some (.long x)) (hb : tb.eval A s none [] s = some (.long y)) (hX : x.toInt = X) (hY : y.toInt = Y) : own_Is A s (.lt (.int 0) (.old (.op2 .lcmp ta tb))) (Y < X) :=
  own_of_decide (Cond.lt_ints rfl (own_lcmp_eval ha hb)) (by subst hX hY; rcases own_lcmp_cases x y with ⟨h, e⟩ | ⟨h, e⟩ | ⟨h, e⟩ <;> rw [e] <;> simp <;> omega)
theorem own_lcmp_le {x y : Int64} (ha : ta.eval A s none [] s = some (.long x)) (hb : tb.eval A s none [] s = some (.long y)) (hX : x.toInt = X) (hY : y.toInt = Y) : own_Is A s (.le (.old (.op2 .lcmp ta tb)) (.int 0)) (X ≤ Y) :=
  own_of_decide (Cond.le_ints (own_lcmp_eval ha hb) rfl) (by subst hX hY; rcases own_lcmp_cases x y with ⟨h, e⟩ | ⟨h, e⟩ | ⟨h, e⟩ <;> rw [e] <;> simp <;> omega)
theorem own_lcmp_ge {x y : Int64} (ha : ta.eval A s none [] s = some (.long x)) (hb : tb.eval A s none [] s = some (.long y)) (hX : x.toInt = X) (hY : y.toInt = Y) : own_Is A s (.le (.int 0) (.old (.op2 .lcmp ta tb))) (Y ≤ X) :=
  own_of_decide (Cond.le_ints rfl (own_lcmp_eval ha hb)) (by subst hX hY; rcases own_lcmp_cases x y with ⟨h, e⟩ | ⟨h, e⟩ | ⟨h, e⟩ <;> rw [e] <;> simp <;> omega)
theorem own_lcmp_eq {x y : Int64} (ha : ta.eval A s none [] s = some (.long x)) (hb : tb.eval A s none [] s = some (.long y)) (hX : x.toInt = X) (hY : y.toInt = Y) : own_Is A s (.eq (.old (.op2 .lcmp ta tb)) (.int 0)) (X = Y) :=
  own_of_decide (Cond.eq_ints (own_lcmp_eval ha hb) rfl) (by subst hX hY; rcases own_lcmp_cases x y with ⟨h, e⟩ | ⟨h, e⟩ | ⟨h, e⟩ <;> rw [e] <;> simp <;> omega)
end

theorem own_walk_eq {α β γ : Type} {w : Option (α × β × γ)} (h : w.isSome = true) {t : α} (e : (w.get h).1 = t) : w = some (t, (w.get h).2.1, (w.get h).2.2) := by
  subst e; exact (Option.some_get h).symm
/-! own 5: a callee's contract with a promise of one's own; the law's -/
def own_says (T : Term) : Cond := .and .returned (.eq .result (.old T))
theorem own_says_after {T : Term} {A : Array Value} {s E : State} {w : Value} (hc : T.closed = true) (hw : T.eval A s none [] s = some w) (hk : VKind.int.ok w = true ∨ VKind.long.ok w = true) : (own_says T).after A s (.returned (some w)) E = true := by
  have h1 : (Term.old T).eval A s (some (.returned (some w))) [] E = some w := by
    show T.eval A s (some (.returned (some w))) [] s = some w
    rw [Term.eval_closed (some (.returned (some w))) [] T s hc]; exact hw
  have h2 : Term.result.eval A s (some (.returned (some w))) [] E = some w := rfl
  rcases hk with hk | hk
  · obtain ⟨x, rfl⟩ := own_int hk
    simp [own_says, Cond.after, Cond.holds, Cond.value, h1, h2]
  · obtain ⟨x, rfl⟩ := own_long hk
    simp [own_says, Cond.after, Cond.holds, Cond.value, h1, h2]
theorem own_callee {l : Launch} {y : MethodName} {code : ByteArray} {maxL : Nat} {ret : Option FieldType} {ks : List VKind} {I : Info} {n : Nat} {t : STree} {tabs needs extra : List Cond} {post : Cond}
    (hx : plainName y.cls = true) (hown : I.own = y.cls) (hr : I.ret = ret)
    (hw : walkTo I code [] n true (entry ks maxL) = some (t, tabs, needs)) (hcalls : CallsOk l I maxL I.room)
    (hn : (needs.all (own_chk ks (.code y code maxL ret :: (tabs ++ extra)) [])) = true) (hp : Kit.pureVal t = true)
    (hv : ∀ A s, own_Kinds ks A → ∃ w, Kit.valueOf A s t = some w ∧ ∀ E, post.after A s (.returned (some w)) E = true) :
    MeetsLoose l y (specOf y code maxL ret ks post (tabs ++ extra) [] I.room) := by
  refine loops_meets (I := I) (ks0 := ks) (cuts := []) hx hown hr rfl rfl rfl (fun args s h => ?_) hw (fun _ => none) (fun _ _ _ _ _ => False) (fun _ _ _ => 0) (fun args s h => ?_) (fun args s _ h ks hks => by cases hks) hcalls
  · exact conj_before h _ List.mem_cons_self
  · have hall := conj_before h
    have hsz : args.size = ks.length := by
      have := hall (.count ks.length) (by simp)
      simpa [Cond.before, Cond.holds, Cond.value] using this
    have hq : ∀ q ∈ Sym.sorts 0 ks, q.before args s = true := fun q hq => hall q (by simp [hq])
    have hK := own_Kinds_of hsz hq
    have hT : ∀ c ∈ (Cond.code y code maxL ret :: (tabs ++ extra)), c.value args s none s [] = some true := fun c hc => by
      have : c.before args s = true := hall c (by
        rcases List.mem_cons.mp hc with rfl | hc
        · exact List.mem_cons_self
        · rcases List.mem_append.mp hc with hc | hc <;> simp [hc])
      simpa [Cond.before, Cond.holds] using this
    obtain ⟨w, hw1, hw2⟩ := hv args s hK
    refine ⟨hsz, hq, fun q h => hall q (by simp [h]), fun q hq => ?_, Kit.vc_of_value (w₀ := w) (fun E => hw2 E) t hp hw1⟩
    have := own_chk_sound (s := s) hK hT (fun c hc => by cases hc) q (List.all_eq_true.mp hn q hq)
    simpa [Cond.before, Cond.holds] using this
/-! own 6: a boolean as a term of ints -/
def own_TB (A : Array Value) (s : State) (T : Term) (P : Prop) : Prop := (P → T.eval A s none [] s = some (.int 1)) ∧ (¬ P → T.eval A s none [] s = some (.int 0))
def own_tltL (a b : Term) : Term := .op2 .iushr (.op2 .lcmp a b) (.int 31)
def own_tlt (a b : Term) : Term := own_tltL (.op1 .i2l a) (.op1 .i2l b)
def own_tnot (a : Term) : Term := .sub (.int 1) a
def own_tand (a b : Term) : Term := .op2 .iand a b
def own_tor (a b : Term) : Term := .op2 .ior a b
section
variable {A : Array Value} {s : State} {P Q : Prop} {ta tb T U : Term} {X Y : Int}
theorem own_tb_ltL {x y : Int64} (ha : ta.eval A s none [] s = some (.long x)) (hb : tb.eval A s none [] s = some (.long y)) (hX : x.toInt = X) (hY : y.toInt = Y) : own_TB A s (own_tltL ta tb) (X < Y) := by
  have h : (own_tltL ta tb).eval A s none [] s = some (.int (((if x > y then (1 : Int32) else if x == y then 0 else -1).toUInt32 >>> ((31 : Int32) &&& 31).toUInt32).toInt32)) := by
    simp only [own_tltL, Term.eval, ha, hb]; rfl
  subst hX hY
  rcases own_lcmp_cases x y with ⟨h1, e⟩ | ⟨h1, e⟩ | ⟨h1, e⟩ <;> rw [e] at h <;> refine ⟨fun p => ?_, fun p => ?_⟩ <;> first | omega | exact h
theorem own_tb_lt {x y : Int32} (ha : ta.eval A s none [] s = some (.int x)) (hb : tb.eval A s none [] s = some (.int y)) (hX : x.toInt = X) (hY : y.toInt = Y) : own_TB A s (own_tlt ta tb) (X < Y) :=
  own_tb_ltL (x := x.toInt64) (y := y.toInt64) (by simp only [Term.eval, ha]; rfl) (by simp only [Term.eval, hb]; rfl) ((Int32.toInt_toInt64 x).trans hX) ((Int32.toInt_toInt64 y).trans hY)
theorem own_tb_not (h : own_TB A s T P) : own_TB A s (own_tnot T) (¬ P) :=
  ⟨fun p => by simp only [own_tnot, Term.eval, h.2 p]; rfl, fun p => by simp only [own_tnot, Term.eval, h.1 (Classical.not_not.mp p)]; rfl⟩
theorem own_tb_and (h : own_TB A s T P) (k : own_TB A s U Q) : own_TB A s (own_tand T U) (P ∧ Q) := by
  by_cases p : P <;> by_cases q : Q
  · exact ⟨fun _ => by simp only [own_tand, Term.eval, h.1 p, k.1 q]; rfl, fun z => absurd ⟨p, q⟩ z⟩
  · exact ⟨fun z => absurd z.2 q, fun _ => by simp only [own_tand, Term.eval, h.1 p, k.2 q]; rfl⟩
  · exact ⟨fun z => absurd z.1 p, fun _ => by simp only [own_tand, Term.eval, h.2 p, k.1 q]; rfl⟩
  · exact ⟨fun z => absurd z.1 p, fun _ => by simp only [own_tand, Term.eval, h.2 p, k.2 q]; rfl⟩
theorem own_tb_or (h : own_TB A s T P) (k : own_TB A s U Q) : own_TB A s (own_tor T U) (P ∨ Q) := by
  by_cases p : P <;> by_cases q : Q
  · exact ⟨fun _ => by simp only [own_tor, Term.eval, h.1 p, k.1 q]; rfl, fun z => absurd (Or.inl p) z⟩
  · exact ⟨fun _ => by simp only [own_tor, Term.eval, h.1 p, k.2 q]; rfl, fun z => absurd (Or.inl p) z⟩
  · exact ⟨fun _ => by simp only [own_tor, Term.eval, h.2 p, k.1 q]; rfl, fun z => absurd (Or.inr q) z⟩
  · exact ⟨fun z => (z.elim (absurd · p) (absurd · q)), fun _ => by simp only [own_tor, Term.eval, h.2 p, k.2 q]; rfl⟩
theorem own_tb_iff (h : own_TB A s T P) (e : P ↔ Q) : own_TB A s T Q := ⟨fun q => h.1 (e.mpr q), fun q => h.2 (fun p => q (e.mp p))⟩
theorem own_tb_some (h : own_TB A s T P) : ∃ x : Int32, T.eval A s none [] s = some (.int x) := by
  by_cases p : P
  · exact ⟨1, h.1 p⟩
  · exact ⟨0, h.2 p⟩
theorem own_eq_tb1 (h : own_TB A s T P) (hb : tb.eval A s none [] s = some (.int 1)) : own_Is A s (.eq (.old T) tb) P :=
  ⟨fun p => by rw [Cond.eq_ints (show (Term.old T).eval A s none [] s = _ from h.1 p) hb]; rfl, fun p => by rw [Cond.eq_ints (show (Term.old T).eval A s none [] s = _ from h.2 p) hb]; rfl⟩
theorem own_eq_tb0 (h : own_TB A s T P) (hb : tb.eval A s none [] s = some (.int 0)) : own_Is A s (.eq (.old T) tb) (¬ P) :=
  ⟨fun p => by rw [Cond.eq_ints (show (Term.old T).eval A s none [] s = _ from h.2 p) hb]; rfl, fun p => by rw [Cond.eq_ints (show (Term.old T).eval A s none [] s = _ from h.1 (Classical.not_not.mp p)) hb]; rfl⟩
theorem own_eq_self (h : own_TB A s T P) : own_Is A s (.eq (.old T) (.old T)) True := by
  obtain ⟨x, e⟩ := own_tb_some h
  exact ⟨fun _ => by rw [Cond.eq_ints (show (Term.old T).eval A s none [] s = _ from e) (show (Term.old T).eval A s none [] s = _ from e)]; simp, fun p => absurd trivial p⟩
/-- a callee that answers P by 1 or 0, its promise the term T -/
theorem own_bool {t : STree} (h : own_TB A s T P) (hc : T.closed = true) (h1 : P → Kit.valueOf A s t = some (.int 1)) (h0 : ¬ P → Kit.valueOf A s t = some (.int 0)) : ∃ w, Kit.valueOf A s t = some w ∧ ∀ E, (own_says T).after A s (.returned (some w)) E = true := by
  by_cases p : P
  · exact ⟨_, h1 p, fun E => own_says_after hc (h.1 p) (Or.inl rfl)⟩
  · exact ⟨_, h0 p, fun E => own_says_after hc (h.2 p) (Or.inl rfl)⟩
end
end Jvm.Pilot.@@N@@
namespace Jvm.Pilot.@@N@@
/-! own 7: the wrap of 64 and of 32 bits as remainders that omega reads; or and xor with one bit -/
theorem own_b64 (n : Int) : n.bmod (2 ^ 64) = (n + 9223372036854775808) % 18446744073709551616 - 9223372036854775808 := by rw [Int.bmod_def]; omega
theorem own_b32 (n : Int) : n.bmod (2 ^ 32) = (n + 2147483648) % 4294967296 - 2147483648 := by rw [Int.bmod_def]; omega
theorem own_add64 (x y : Int64) : (x + y).toInt = (x.toInt + y.toInt + 9223372036854775808) % 18446744073709551616 - 9223372036854775808 := by rw [Int64.toInt_add, own_b64]
theorem own_sub64 (x y : Int64) : (x - y).toInt = (x.toInt - y.toInt + 9223372036854775808) % 18446744073709551616 - 9223372036854775808 := by rw [Int64.toInt_sub, own_b64]
theorem own_mul64 (x y : Int64) : (x * y).toInt = (x.toInt * y.toInt + 9223372036854775808) % 18446744073709551616 - 9223372036854775808 := by rw [Int64.toInt_mul, own_b64]
theorem own_add32 (x y : Int32) : (x + y).toInt = (x.toInt + y.toInt + 2147483648) % 4294967296 - 2147483648 := by rw [Int32.toInt_add, own_b32]
theorem own_sub32 (x y : Int32) : (x - y).toInt = (x.toInt - y.toInt + 2147483648) % 4294967296 - 2147483648 := by rw [Int32.toInt_sub, own_b32]
theorem own_mul32 (x y : Int32) : (x * y).toInt = (x.toInt * y.toInt + 2147483648) % 4294967296 - 2147483648 := by rw [Int32.toInt_mul, own_b32]
theorem own_or32 (x : Int32) : (x ||| 32).toInt = x.toInt + 32 - 32 * (x.toInt / 32 % 2) := by
  have h : ∀ r : Fin 64, r.val ||| 32 = r.val + 32 - 32 * (r.val / 32 % 2) := by decide
  have e : (x ||| 32).toInt = (x.toBitVec ||| (32 : Int32).toBitVec).toInt := rfl
  have e' : x.toInt = x.toBitVec.toInt := rfl
  have hb := x.toBitVec.isLt
  have n1 : (x.toBitVec ||| (32 : Int32).toBitVec).toNat = x.toBitVec.toNat ||| 32 := by rw [BitVec.toNat_or]; rfl
  have n2 : (x.toBitVec.toNat ||| 32) % 2 ^ 6 = x.toBitVec.toNat % 2 ^ 6 ||| 32 % 2 ^ 6 := Nat.or_mod_two_pow
  have n3 : (x.toBitVec.toNat ||| 32) / 2 ^ 6 = x.toBitVec.toNat / 2 ^ 6 ||| 32 / 2 ^ 6 := Nat.or_div_two_pow
  have n4 := h ⟨x.toBitVec.toNat % 64, Nat.mod_lt _ (by decide)⟩
  simp at n2 n3 n4
  rw [e, e', BitVec.toInt_eq_toNat_cond, BitVec.toInt_eq_toNat_cond, n1]
  generalize x.toBitVec.toNat = n at *
  generalize n ||| 32 = k at *
  split <;> split <;> omega
theorem own_xmin (x : Int64) : (x ^^^ (-9223372036854775808)).toInt = (x.toInt + 18446744073709551616) % 18446744073709551616 - 9223372036854775808 := by
  have e : (x ^^^ (-9223372036854775808)).toInt = (x.toBitVec ^^^ (-9223372036854775808 : Int64).toBitVec).toInt := rfl
  have e' : x.toInt = x.toBitVec.toInt := rfl
  have hb := x.toBitVec.isLt
  have n1 : (x.toBitVec ^^^ (-9223372036854775808 : Int64).toBitVec).toNat = x.toBitVec.toNat ^^^ 9223372036854775808 := by rw [BitVec.toNat_xor]; rfl
  have n2 : (x.toBitVec.toNat ^^^ 9223372036854775808) % 2 ^ 63 = x.toBitVec.toNat % 2 ^ 63 ^^^ 9223372036854775808 % 2 ^ 63 := Nat.xor_mod_two_pow
  have n3 : (x.toBitVec.toNat ^^^ 9223372036854775808) / 2 ^ 63 = x.toBitVec.toNat / 2 ^ 63 ^^^ 9223372036854775808 / 2 ^ 63 := Nat.xor_div_two_pow
  have h : ∀ r : Fin 2, r.val ^^^ 1 = 1 - r.val := by decide
  have n4 := h ⟨x.toBitVec.toNat / 9223372036854775808, by omega⟩
  simp at n2 n3 n4
  rw [e, e', BitVec.toInt_eq_toNat_cond, BitVec.toInt_eq_toNat_cond, n1]
  generalize x.toBitVec.toNat = n at *
  generalize n ^^^ 9223372036854775808 = k at *
  split <;> split <;> omega
theorem own_i2c (x : Int32) : x.toUInt32.toUInt16.toUInt32.toInt32.toInt = x.toInt % 65536 := by
  have e' : x.toInt = x.toBitVec.toInt := rfl
  have hb := x.toBitVec.isLt
  have e : x.toUInt32.toUInt16.toUInt32.toInt32.toInt = (x.toUInt32.toUInt16.toUInt32.toInt32).toBitVec.toInt := rfl
  have n1 : (x.toUInt32.toUInt16.toUInt32.toInt32).toBitVec.toNat = x.toBitVec.toNat % 65536 := by
    show (x.toUInt32.toUInt16.toUInt32).toNat = _
    simp
    rfl
  rw [e, e', BitVec.toInt_eq_toNat_cond, BitVec.toInt_eq_toNat_cond, n1]
  generalize x.toBitVec.toNat = n at *
  split <;> split <;> omega
end Jvm.Pilot.@@N@@
namespace Jvm.Pilot.@@N@@
open Jvm Jvm.ClassFile Sem Op Jvm.Sym Jvm.Pilot.@@N@@.Jvm.D
def own_teq0 (z : Term) : Term := own_tnot (own_tor (own_tltL z (.long 0)) (own_tltL (.long 0) z))
def own_xm (z : Term) : Term := .op2 .lxor z (.long (-9223372036854775808))
def own_sb (a b : Term) : Term := .op2 .lsub a b
def own_Tho (x f t : Term) : Term := own_tor (own_teq0 (own_sb t f)) (own_tand (own_tnot (own_teq0 (own_sb x f))) (own_tnot (own_tltL (own_xm (own_sb t f)) (own_xm (own_sb x f)))))
def own_Top (x f t : Term) : Term := own_tand (own_tnot (own_teq0 (own_sb x f))) (own_tor (own_teq0 (own_sb t f)) (own_tltL (own_xm (own_sb x f)) (own_xm (own_sb t f))))
section
variable {A : Array Value} {s : State} {x f t : Term} {vx vf vt : Int64}
theorem own_sb_ev (ha : x.eval A s none [] s = some (.long vx)) (hb : f.eval A s none [] s = some (.long vf)) : (own_sb x f).eval A s none [] s = some (.long (vx - vf)) := by
  simp only [own_sb, Term.eval, ha, hb]; rfl
theorem own_xm_ev (ha : x.eval A s none [] s = some (.long vx)) : (own_xm x).eval A s none [] s = some (.long (vx ^^^ (-9223372036854775808))) := by
  simp only [own_xm, Term.eval, ha]; rfl
theorem own_teq0_tb (h : x.eval A s none [] s = some (.long vx)) : own_TB A s (own_teq0 x) (¬ (vx.toInt < 0 ∨ 0 < vx.toInt)) :=
  own_tb_not (own_tb_or (own_tb_ltL h rfl rfl (by decide)) (own_tb_ltL rfl h (by decide) rfl))
theorem own_Tho_tb (hx : x.eval A s none [] s = some (.long vx)) (hf : f.eval A s none [] s = some (.long vf)) (ht : t.eval A s none [] s = some (.long vt)) : own_TB A s (own_Tho x f t) ((¬ (((vt - vf).toInt < 0) ∨ (0 < (vt - vf).toInt))) ∨ ((¬ ¬ (((vx - vf).toInt < 0) ∨ (0 < (vx - vf).toInt))) ∧ (¬ (((vt - vf) ^^^ (-9223372036854775808)).toInt < ((vx - vf) ^^^ (-9223372036854775808)).toInt)))) :=
  own_tb_or (own_teq0_tb (own_sb_ev ht hf)) (own_tb_and (own_tb_not (own_teq0_tb (own_sb_ev hx hf))) (own_tb_not (own_tb_ltL (own_xm_ev (own_sb_ev ht hf)) (own_xm_ev (own_sb_ev hx hf)) rfl rfl)))
theorem own_Top_tb (hx : x.eval A s none [] s = some (.long vx)) (hf : f.eval A s none [] s = some (.long vf)) (ht : t.eval A s none [] s = some (.long vt)) : own_TB A s (own_Top x f t) ((¬ ¬ (((vx - vf).toInt < 0) ∨ (0 < (vx - vf).toInt))) ∧ ((¬ (((vt - vf).toInt < 0) ∨ (0 < (vt - vf).toInt))) ∨ (((vx - vf) ^^^ (-9223372036854775808)).toInt < ((vt - vf) ^^^ (-9223372036854775808)).toInt))) :=
  own_tb_and (own_tb_not (own_teq0_tb (own_sb_ev hx hf))) (own_tb_or (own_teq0_tb (own_sb_ev ht hf)) (own_tb_ltL (own_xm_ev (own_sb_ev hx hf)) (own_xm_ev (own_sb_ev ht hf)) rfl rfl))
end
/-! body 1 -/
def y1 : MethodName := ⟨"java/lang/Long", "compare", "(JJ)I"⟩
def I1 : Info := { own := y1.cls, ret := some .int, maxLocals := 4 }
def v1 := walk I1 jdk_35_method_42_code 400 (entry [.long, .long] 4)
set_option maxRecDepth 65536 in
theorem v1_some : v1.isSome = true := by decide +kernel
def G1 : Cond × List Cond × List Cond := v1.get v1_some
def own_T1 : List Cond := G1.2.1
def S1 : Spec := specOf y1 jdk_35_method_42_code 4 (some .int) [.long, .long] G1.1 G1.2.1 G1.2.2 I1.room
def c1 : Callee := { y := y1, S := S1, bytes := jdk_35_method_42_code, maxL := 4, ret := some .int, static := true, params := 2, res := some .int }
theorem I1_calls (l : Launch) : CallsOk l I1 4 I1.room := fun q hq => by
  cases hq
theorem S1_meets (l : Launch) : MeetsLoose l y1 S1 :=
  walk_meets (n := 400) (I := I1) (by decide) rfl rfl (show walk I1 jdk_35_method_42_code 400 (entry [.long, .long] 4) = some (G1.1, G1.2.1, G1.2.2) from (Option.some_get v1_some).symm) (I1_calls l)
set_option maxRecDepth 65536 in
theorem S1_cold : S1.Cold := Spec.cold_of_keeps (by decide +kernel)
/-! body 2 -/
def y2 : MethodName := ⟨"java/lang/Long", "compareUnsigned", "(JJ)I"⟩
def I2 : Info := { own := y2.cls, ret := some .int, longs := [(168, -9223372036854775808)], calls := [(302, c1)], maxLocals := 4, room := { frames := 1, cells := 0, slots := 0, locals := 20 } }
def w2 := walkTo I2 jdk_35_method_43_code [] 400 true (entry [.long, .long] 4)
set_option maxRecDepth 65536 in
theorem w2_some : w2.isSome = true := by decide +kernel
def own2_g0 : Cond := (.le (.int 0) (.old (.op2 .lcmp (.op2 .ladd (.arg 0) (.long (-9223372036854775808))) (.op2 .ladd (.arg 1) (.long (-9223372036854775808))))))
def own2_g1 : Cond := (.eq (.old (.op2 .lcmp (.op2 .ladd (.arg 0) (.long (-9223372036854775808))) (.op2 .ladd (.arg 1) (.long (-9223372036854775808))))) (.int 0))
def own2_t : STree := (.fork own2_g0 (.fork (.not own2_g1) (.ret (some ⟨(.int 1), .int⟩) []) (.ret (some ⟨(.int 0), .int⟩) [])) (.ret (some ⟨(.int (-1)), .int⟩) []))
set_option maxRecDepth 65536 in
theorem w2_tree : (w2.get w2_some).1 = own2_t := by decide +kernel
theorem w2_walk : walkTo I2 jdk_35_method_43_code [] 400 true (entry [.long, .long] 4) = some (own2_t, (w2.get w2_some).2.1, (w2.get w2_some).2.2) := own_walk_eq w2_some w2_tree
def own_E2 : List Cond := [] ++ own_T1
def own_T2 : List Cond := (w2.get w2_some).2.1 ++ own_E2
def S2 : Spec := specOf y2 jdk_35_method_43_code 4 (some .int) [.long, .long] (own_says (.op2 .lcmp (.op2 .ladd (.arg 0) (.long (-9223372036854775808))) (.op2 .ladd (.arg 1) (.long (-9223372036854775808))))) own_T2 [] I2.room
def c2 : Callee := { y := y2, S := S2, bytes := jdk_35_method_43_code, maxL := 4, ret := some .int, static := true, params := 2, res := some .int }
theorem I2_calls (l : Launch) : CallsOk l I2 4 I2.room := fun q hq => by
  simp only [I2, List.mem_cons, List.not_mem_nil, or_false] at hq
  rcases hq with rfl
  · exact ⟨rfl, rfl, S1_meets l, S1_cold⟩
set_option maxRecDepth 65536 in
theorem value2 (a : Int64) (b : Int64) (s : State) : ∃ w, Kit.valueOf #[.long a, .long b] s own2_t = some w ∧ ∀ E, (own_says (.op2 .lcmp (.op2 .ladd (.arg 0) (.long (-9223372036854775808))) (.op2 .ladd (.arg 1) (.long (-9223372036854775808))))).after #[.long a, .long b] s (.returned (some w)) E = true := by
  refine ⟨.int (if (a + (-9223372036854775808)) > (b + (-9223372036854775808)) then (1 : Int32) else if (a + (-9223372036854775808)) == (b + (-9223372036854775808)) then 0 else -1), ?_, fun E => own_says_after rfl rfl (Or.inl rfl)⟩
  rcases own_lcmp_cases (a + (-9223372036854775808)) (b + (-9223372036854775808)) with ⟨q, e⟩ | ⟨q, e⟩ | ⟨q, e⟩ <;> rw [e]
  · have g0 : own_Is #[.long a, .long b] s own2_g0 ((b + (-9223372036854775808 : Int64)).toInt ≤ (a + (-9223372036854775808 : Int64)).toInt) := own_lcmp_ge rfl rfl rfl rfl
    have g1 : own_Is #[.long a, .long b] s own2_g1 ((a + (-9223372036854775808 : Int64)).toInt = (b + (-9223372036854775808 : Int64)).toInt) := own_lcmp_eq rfl rfl rfl rfl
    refine own_fork g0 (fun h0 => ?_) (fun h0 => ?_)
    · refine own_fork (own_not g1) (fun h1 => ?_) (fun h1 => ?_)
      · exact rfl
      · have h1 := Classical.not_not.mp h1
        exact absurd (by omega : False) id
    · exact absurd (by omega : False) id
  · have g0 : own_Is #[.long a, .long b] s own2_g0 ((b + (-9223372036854775808 : Int64)).toInt ≤ (a + (-9223372036854775808 : Int64)).toInt) := own_lcmp_ge rfl rfl rfl rfl
    have g1 : own_Is #[.long a, .long b] s own2_g1 ((a + (-9223372036854775808 : Int64)).toInt = (b + (-9223372036854775808 : Int64)).toInt) := own_lcmp_eq rfl rfl rfl rfl
    refine own_fork g0 (fun h0 => ?_) (fun h0 => ?_)
    · refine own_fork (own_not g1) (fun h1 => ?_) (fun h1 => ?_)
      · exact absurd (by omega : False) id
      · have h1 := Classical.not_not.mp h1
        exact rfl
    · exact absurd (by omega : False) id
  · have g0 : own_Is #[.long a, .long b] s own2_g0 ((b + (-9223372036854775808 : Int64)).toInt ≤ (a + (-9223372036854775808 : Int64)).toInt) := own_lcmp_ge rfl rfl rfl rfl
    have g1 : own_Is #[.long a, .long b] s own2_g1 ((a + (-9223372036854775808 : Int64)).toInt = (b + (-9223372036854775808 : Int64)).toInt) := own_lcmp_eq rfl rfl rfl rfl
    refine own_fork g0 (fun h0 => ?_) (fun h0 => ?_)
    · refine own_fork (own_not g1) (fun h1 => ?_) (fun h1 => ?_)
      · exact absurd (by omega : False) id
      · have h1 := Classical.not_not.mp h1
        exact absurd (by omega : False) id
    · exact rfl
set_option maxRecDepth 65536 in
set_option maxHeartbeats 4000000 in
theorem S2_meets (l : Launch) : MeetsLoose l y2 S2 :=
  own_callee (extra := own_E2) (by decide) rfl rfl w2_walk (I2_calls l) (by decide +kernel) (by decide +kernel) (fun A s hA => by
    obtain ⟨v0, v1, rfl, q0, q1⟩ := own_k2 hA
    obtain ⟨a, rfl⟩ := own_long q0
    obtain ⟨b, rfl⟩ := own_long q1
    exact value2 a b s)
set_option maxRecDepth 65536 in
theorem S2_cold : S2.Cold := Spec.cold_of_keeps (by decide +kernel)
/-! body 3 -/
def y3 : MethodName := ⟨"com/example/triplemesh/triplemesh/Ring", "inHalfOpen", "(JJJ)Z"⟩
def I3 : Info := { own := y3.cls, ret := some .boolean, calls := [(7, c2)], maxLocals := 6, room := { frames := 2, cells := 0, slots := 0, locals := 40 } }
def w3 := walkTo I3 prog_7_method_2_code [] 400 true (entry [.long, .long, .long] 6)
set_option maxRecDepth 65536 in
theorem w3_some : w3.isSome = true := by decide +kernel
def own3_g0 : Cond := (.eq (.old (.op2 .lcmp (.arg 1) (.arg 2))) (.int 0))
def own3_g1 : Cond := (.le (.int 0) (.old (.op2 .lcmp (.op2 .ladd (.arg 1) (.long (-9223372036854775808))) (.op2 .ladd (.arg 2) (.long (-9223372036854775808))))))
def own3_g2 : Cond := (.lt (.int 0) (.old (.op2 .lcmp (.op2 .ladd (.arg 0) (.long (-9223372036854775808))) (.op2 .ladd (.arg 1) (.long (-9223372036854775808))))))
def own3_g3 : Cond := (.lt (.int 0) (.old (.op2 .lcmp (.op2 .ladd (.arg 0) (.long (-9223372036854775808))) (.op2 .ladd (.arg 2) (.long (-9223372036854775808))))))
def own3_g4 : Cond := (.le (.old (.op2 .lcmp (.op2 .ladd (.arg 0) (.long (-9223372036854775808))) (.op2 .ladd (.arg 1) (.long (-9223372036854775808))))) (.int 0))
def own3_t : STree := (.fork (.not own3_g0) (.fork own3_g1 (.fork own3_g2 (.ret (some ⟨(.op2 .iand (.int 1) (.int 1)), .int⟩) []) (.fork own3_g3 (.ret (some ⟨(.op2 .iand (.int 0) (.int 1)), .int⟩) []) (.ret (some ⟨(.op2 .iand (.int 1) (.int 1)), .int⟩) []))) (.fork own3_g4 (.ret (some ⟨(.op2 .iand (.int 0) (.int 1)), .int⟩) []) (.fork own3_g3 (.ret (some ⟨(.op2 .iand (.int 0) (.int 1)), .int⟩) []) (.ret (some ⟨(.op2 .iand (.int 1) (.int 1)), .int⟩) [])))) (.ret (some ⟨(.op2 .iand (.int 1) (.int 1)), .int⟩) []))
set_option maxRecDepth 65536 in
theorem w3_tree : (w3.get w3_some).1 = own3_t := by decide +kernel
theorem w3_walk : walkTo I3 prog_7_method_2_code [] 400 true (entry [.long, .long, .long] 6) = some (own3_t, (w3.get w3_some).2.1, (w3.get w3_some).2.2) := own_walk_eq w3_some w3_tree
def own_E3 : List Cond := [] ++ own_T2
def own_T3 : List Cond := (w3.get w3_some).2.1 ++ own_E3
def S3 : Spec := specOf y3 prog_7_method_2_code 6 (some .boolean) [.long, .long, .long] (own_says (own_Tho (.arg 0) (.arg 1) (.arg 2))) own_T3 [] I3.room
def c3 : Callee := { y := y3, S := S3, bytes := prog_7_method_2_code, maxL := 6, ret := some .boolean, static := true, params := 3, res := some .int }
theorem I3_calls (l : Launch) : CallsOk l I3 6 I3.room := fun q hq => by
  simp only [I3, List.mem_cons, List.not_mem_nil, or_false] at hq
  rcases hq with rfl
  · exact ⟨rfl, rfl, S2_meets l, S2_cold⟩
set_option maxRecDepth 65536 in
set_option maxHeartbeats 4000000 in
theorem value3 (x : Int64) (f : Int64) (t : Int64) (s : State) : ∃ w, Kit.valueOf #[.long x, .long f, .long t] s own3_t = some w ∧ ∀ E, (own_says (own_Tho (.arg 0) (.arg 1) (.arg 2))).after #[.long x, .long f, .long t] s (.returned (some w)) E = true := by
  have e1 := own_add64 x (-9223372036854775808)
  have e2 := own_add64 f (-9223372036854775808)
  have e3 := own_add64 t (-9223372036854775808)
  have e4 : (-9223372036854775808 : Int64).toInt = -9223372036854775808 := by decide
  have e5 := own_sub64 x f
  have e6 := own_sub64 t f
  have e7 := own_xmin (x - f)
  have e8 := own_xmin (t - f)
  have e9 := x.toInt_lt
  have e10 := x.le_toInt
  have e11 := f.toInt_lt
  have e12 := f.le_toInt
  have e13 := t.toInt_lt
  have e14 := t.le_toInt
  have g0 : own_Is #[.long x, .long f, .long t] s own3_g0 (f.toInt = t.toInt) := own_lcmp_eq rfl rfl rfl rfl
  have g1 : own_Is #[.long x, .long f, .long t] s own3_g1 ((t + (-9223372036854775808 : Int64)).toInt ≤ (f + (-9223372036854775808 : Int64)).toInt) := own_lcmp_ge rfl rfl rfl rfl
  have g2 : own_Is #[.long x, .long f, .long t] s own3_g2 ((f + (-9223372036854775808 : Int64)).toInt < (x + (-9223372036854775808 : Int64)).toInt) := own_lcmp_gt rfl rfl rfl rfl
  have g3 : own_Is #[.long x, .long f, .long t] s own3_g3 ((t + (-9223372036854775808 : Int64)).toInt < (x + (-9223372036854775808 : Int64)).toInt) := own_lcmp_gt rfl rfl rfl rfl
  have g4 : own_Is #[.long x, .long f, .long t] s own3_g4 ((x + (-9223372036854775808 : Int64)).toInt ≤ (f + (-9223372036854775808 : Int64)).toInt) := own_lcmp_le rfl rfl rfl rfl
  refine own_bool (P := (¬ (((t - f).toInt < 0) ∨ (0 < (t - f).toInt))) ∨ ((¬ ¬ (((x - f).toInt < 0) ∨ (0 < (x - f).toInt))) ∧ (¬ (((t - f) ^^^ (-9223372036854775808)).toInt < ((x - f) ^^^ (-9223372036854775808)).toInt)))) (own_Tho_tb rfl rfl rfl) (by decide) (fun hP => ?_) (fun hP => ?_)
  · refine own_fork (own_not g0) (fun h0 => ?_) (fun h0 => ?_)
    · refine own_fork g1 (fun h1 => ?_) (fun h1 => ?_)
      · refine own_fork g2 (fun h2 => ?_) (fun h2 => ?_)
        · exact rfl
        · refine own_fork g3 (fun h3 => ?_) (fun h3 => ?_)
          · exact absurd (by omega : False) id
          · exact rfl
      · refine own_fork g4 (fun h4 => ?_) (fun h4 => ?_)
        · exact absurd (by omega : False) id
        · refine own_fork g3 (fun h3 => ?_) (fun h3 => ?_)
          · exact absurd (by omega : False) id
          · exact rfl
    · have h0 := Classical.not_not.mp h0
      exact rfl
  · refine own_fork (own_not g0) (fun h0 => ?_) (fun h0 => ?_)
    · refine own_fork g1 (fun h1 => ?_) (fun h1 => ?_)
      · refine own_fork g2 (fun h2 => ?_) (fun h2 => ?_)
        · exact absurd (by omega : False) id
        · refine own_fork g3 (fun h3 => ?_) (fun h3 => ?_)
          · exact rfl
          · exact absurd (by omega : False) id
      · refine own_fork g4 (fun h4 => ?_) (fun h4 => ?_)
        · exact rfl
        · refine own_fork g3 (fun h3 => ?_) (fun h3 => ?_)
          · exact rfl
          · exact absurd (by omega : False) id
    · have h0 := Classical.not_not.mp h0
      exact absurd (by omega : False) id
set_option maxRecDepth 65536 in
set_option maxHeartbeats 4000000 in
theorem S3_meets (l : Launch) : MeetsLoose l y3 S3 :=
  own_callee (extra := own_E3) (by decide) rfl rfl w3_walk (I3_calls l) (by decide +kernel) (by decide +kernel) (fun A s hA => by
    obtain ⟨v0, v1, v2, rfl, q0, q1, q2⟩ := own_k3 hA
    obtain ⟨x, rfl⟩ := own_long q0
    obtain ⟨f, rfl⟩ := own_long q1
    obtain ⟨t, rfl⟩ := own_long q2
    exact value3 x f t s)
set_option maxRecDepth 65536 in
theorem S3_cold : S3.Cold := Spec.cold_of_keeps (by decide +kernel)
/-! body 4 -/
def y4 : MethodName := ⟨"com/example/triplemesh/triplemesh/Ring", "inOpen", "(JJJ)Z"⟩
def I4 : Info := { own := y4.cls, ret := some .boolean, calls := [(13, c3)], maxLocals := 6, room := { frames := 3, cells := 0, slots := 0, locals := 60 } }
def w4 := walkTo I4 prog_7_method_3_code [] 400 true (entry [.long, .long, .long] 6)
set_option maxRecDepth 65536 in
theorem w4_some : w4.isSome = true := by decide +kernel
def own4_g0 : Cond := (.eq (.old (.op2 .lcmp (.arg 1) (.arg 2))) (.int 0))
def own4_g1 : Cond := (.eq (.old (.op2 .lcmp (.arg 0) (.arg 2))) (.int 0))
def own4_g2 : Cond := (.eq (.old (.op2 .ior (.sub (.int 1) (.op2 .ior (.op2 .iushr (.op2 .lcmp (.op2 .lsub (.arg 2) (.arg 1)) (.long 0)) (.int 31)) (.op2 .iushr (.op2 .lcmp (.long 0) (.op2 .lsub (.arg 2) (.arg 1))) (.int 31)))) (.op2 .iand (.sub (.int 1) (.sub (.int 1) (.op2 .ior (.op2 .iushr (.op2 .lcmp (.op2 .lsub (.arg 0) (.arg 1)) (.long 0)) (.int 31)) (.op2 .iushr (.op2 .lcmp (.long 0) (.op2 .lsub (.arg 0) (.arg 1))) (.int 31))))) (.sub (.int 1) (.op2 .iushr (.op2 .lcmp (.op2 .lxor (.op2 .lsub (.arg 2) (.arg 1)) (.long (-9223372036854775808))) (.op2 .lxor (.op2 .lsub (.arg 0) (.arg 1)) (.long (-9223372036854775808)))) (.int 31)))))) (.int 0))
def own4_g3 : Cond := (.eq (.old (.op2 .lcmp (.arg 0) (.arg 1))) (.int 0))
def own4_t : STree := (.fork (.not own4_g0) (.fork own4_g1 (.ret (some ⟨(.op2 .iand (.int 0) (.int 1)), .int⟩) []) (.fork own4_g2 (.ret (some ⟨(.op2 .iand (.int 0) (.int 1)), .int⟩) []) (.ret (some ⟨(.op2 .iand (.int 1) (.int 1)), .int⟩) []))) (.fork own4_g3 (.ret (some ⟨(.op2 .iand (.int 0) (.int 1)), .int⟩) []) (.ret (some ⟨(.op2 .iand (.int 1) (.int 1)), .int⟩) [])))
set_option maxRecDepth 65536 in
theorem w4_tree : (w4.get w4_some).1 = own4_t := by decide +kernel
theorem w4_walk : walkTo I4 prog_7_method_3_code [] 400 true (entry [.long, .long, .long] 6) = some (own4_t, (w4.get w4_some).2.1, (w4.get w4_some).2.2) := own_walk_eq w4_some w4_tree
def own_E4 : List Cond := [] ++ own_T3
def own_T4 : List Cond := (w4.get w4_some).2.1 ++ own_E4
def S4 : Spec := specOf y4 prog_7_method_3_code 6 (some .boolean) [.long, .long, .long] (own_says (own_Top (.arg 0) (.arg 1) (.arg 2))) own_T4 [] I4.room
def c4 : Callee := { y := y4, S := S4, bytes := prog_7_method_3_code, maxL := 6, ret := some .boolean, static := true, params := 3, res := some .int }
theorem I4_calls (l : Launch) : CallsOk l I4 6 I4.room := fun q hq => by
  simp only [I4, List.mem_cons, List.not_mem_nil, or_false] at hq
  rcases hq with rfl
  · exact ⟨rfl, rfl, S3_meets l, S3_cold⟩
set_option maxRecDepth 65536 in
set_option maxHeartbeats 4000000 in
theorem value4 (x : Int64) (f : Int64) (t : Int64) (s : State) : ∃ w, Kit.valueOf #[.long x, .long f, .long t] s own4_t = some w ∧ ∀ E, (own_says (own_Top (.arg 0) (.arg 1) (.arg 2))).after #[.long x, .long f, .long t] s (.returned (some w)) E = true := by
  have e4 : (-9223372036854775808 : Int64).toInt = -9223372036854775808 := by decide
  have e5 := own_sub64 x f
  have e6 := own_sub64 t f
  have e7 := own_xmin (x - f)
  have e8 := own_xmin (t - f)
  have e9 := x.toInt_lt
  have e10 := x.le_toInt
  have e11 := f.toInt_lt
  have e12 := f.le_toInt
  have e13 := t.toInt_lt
  have e14 := t.le_toInt
  have g0 : own_Is #[.long x, .long f, .long t] s own4_g0 (f.toInt = t.toInt) := own_lcmp_eq rfl rfl rfl rfl
  have g1 : own_Is #[.long x, .long f, .long t] s own4_g1 (x.toInt = t.toInt) := own_lcmp_eq rfl rfl rfl rfl
  have g2 : own_Is #[.long x, .long f, .long t] s own4_g2 (¬ ((¬ (((t - f).toInt < 0) ∨ (0 < (t - f).toInt))) ∨ ((¬ ¬ (((x - f).toInt < 0) ∨ (0 < (x - f).toInt))) ∧ (¬ (((t - f) ^^^ (-9223372036854775808)).toInt < ((x - f) ^^^ (-9223372036854775808)).toInt))))) := own_eq_tb0 (own_Tho_tb (x := .arg 0) (f := .arg 1) (t := .arg 2) rfl rfl rfl) rfl
  have g3 : own_Is #[.long x, .long f, .long t] s own4_g3 (x.toInt = f.toInt) := own_lcmp_eq rfl rfl rfl rfl
  refine own_bool (P := (¬ ¬ (((x - f).toInt < 0) ∨ (0 < (x - f).toInt))) ∧ ((¬ (((t - f).toInt < 0) ∨ (0 < (t - f).toInt))) ∨ (((x - f) ^^^ (-9223372036854775808)).toInt < ((t - f) ^^^ (-9223372036854775808)).toInt))) (own_Top_tb rfl rfl rfl) (by decide) (fun hP => ?_) (fun hP => ?_)
  · refine own_fork (own_not g0) (fun h0 => ?_) (fun h0 => ?_)
    · refine own_fork g1 (fun h1 => ?_) (fun h1 => ?_)
      · exact absurd (by omega : False) id
      · refine own_fork g2 (fun h2 => ?_) (fun h2 => ?_)
        · exact absurd (by omega : False) id
        · exact rfl
    · have h0 := Classical.not_not.mp h0
      refine own_fork g3 (fun h3 => ?_) (fun h3 => ?_)
      · exact absurd (by omega : False) id
      · exact rfl
  · refine own_fork (own_not g0) (fun h0 => ?_) (fun h0 => ?_)
    · refine own_fork g1 (fun h1 => ?_) (fun h1 => ?_)
      · exact rfl
      · refine own_fork g2 (fun h2 => ?_) (fun h2 => ?_)
        · exact rfl
        · exact absurd (by omega : False) id
    · have h0 := Classical.not_not.mp h0
      refine own_fork g3 (fun h3 => ?_) (fun h3 => ?_)
      · exact rfl
      · exact absurd (by omega : False) id
set_option maxRecDepth 65536 in
set_option maxHeartbeats 4000000 in
theorem S4_meets (l : Launch) : MeetsLoose l y4 S4 :=
  own_callee (extra := own_E4) (by decide) rfl rfl w4_walk (I4_calls l) (by decide +kernel) (by decide +kernel) (fun A s hA => by
    obtain ⟨v0, v1, v2, rfl, q0, q1, q2⟩ := own_k3 hA
    obtain ⟨x, rfl⟩ := own_long q0
    obtain ⟨f, rfl⟩ := own_long q1
    obtain ⟨t, rfl⟩ := own_long q2
    exact value4 x f t s)
set_option maxRecDepth 65536 in
theorem S4_cold : S4.Cold := Spec.cold_of_keeps (by decide +kernel)
end Jvm.Pilot.@@N@@
namespace Jvm.Pilot.@@N@@
open Jvm Jvm.ClassFile Sem Op Lib Jvm.Free Jvm.Stand Jvm.LawKit Jvm.RoadKit Bundle Jvm.Pilot.@@N@@.Jvm.D
/-! own 8: the goal at a frame, one step -/
abbrev own_G (tb : Tables) (e : Env) (below : List Frame) (F : State → Outcome → Prop) (U : State) : Prop := ∃ s₂ o, Steps tb e below U s₂ ∧ F s₂ o
theorem own_via {tb : Tables} {e : Env} {below : List Frame} {F : State → Outcome → Prop} {U U' : State} (h : ∀ t, Steps tb e below U' t → Steps tb e below U t) (k : own_G tb e below F U') : own_G tb e below F U := by
  obtain ⟨s₂, o, h1, h2⟩ := k
  exact ⟨s₂, o, h s₂ h1, h2⟩
/-! own 9: a contract of the walk by evaluation, spent in a walk by hand -/
theorem own_conj {args : Array Value} {s : State} : ∀ (L : List Jvm.Cond), (∀ c ∈ L, c.before args s = true) → (Jvm.Sym.conj L).before args s = true
  | [], _ => rfl
  | c :: L, h => by
    show (Jvm.Cond.and c (Jvm.Sym.conj L)).before args s = true
    rw [Cond.before_and, h c List.mem_cons_self, own_conj L fun d hd => h d (List.mem_cons_of_mem _ hd)]; rfl
theorem own_tabs (T : List Jvm.Cond) {a0 : Array Value} {Z : State} (hw : ∀ d ∈ tables_1, d.before a0 Z = true) (h : (T.all fun d => tables_1.contains d) = true) : ∀ d ∈ T, d.before a0 Z = true :=
  fun d hd => hw d (List.contains_iff_mem.mp (List.all_eq_true.mp h d hd))
theorem own_free {l : Launch} {y : MethodName} {bytes : ByteArray} {maxL : Nat} {ret : Option FieldType} {ks : List Jvm.Sym.VKind} {post : Jvm.Cond} {TT : List Jvm.Cond} {room : Room} (hM : MeetsLoose l y (Jvm.Sym.specOf y bytes maxL ret ks post TT [] room))
    {Z : State} {a0 : Array Value} (hT : ∀ d ∈ TT, d.before a0 Z = true) (hTo : (TT.all fun d => d.onTables && d.keepsFace) = true) (hrc : room.cells = 0) (hrs : room.slots = 0) {as' : Array Value} (hK : own_Kinds ks as') {h : Heap} {Qv : Option Value → Prop}
    (hQ : ∀ U o U', post.after as' U o U' = true → ∃ v, o = .returned v ∧ Qv v) :
    MetFree l y (head1 [Jvm.Cond.code y bytes maxL ret] room) (fun a U => a = as' ∧ Z.Warmed39 U.vm ∧ U.heap = h) (fun _ _ _ _ _ => True) (fun _ U o U' => ∃ v L, o = .returned v ∧ (Qv v ∧ L = [] ∧ U'.heap = h) ∧ FrameEnd U o U' L room.cells room.slots) := by
  intro p e ha hc hk s m args below hf happ hP _
  obtain ⟨rfl, hZ, hh⟩ := hP
  obtain ⟨a1, a2, a3, a4, a5, a6, a7, a8⟩ := (Spec.appliesLoose_iff hf).mp happ
  have hcode : (Jvm.Cond.code y bytes maxL ret).before args s = true := by
    have : (Jvm.Cond.and (Jvm.Cond.code y bytes maxL ret) .tt).before args s = true := a8
    rw [Cond.before_and, Bool.and_eq_true] at this; exact this.1
  have hpre : (Jvm.Sym.specOf y bytes maxL ret ks post TT [] room).pre.before args s = true := by
    refine own_conj _ fun c hc => ?_
    rcases List.mem_cons.mp hc with rfl | hc
    · exact hcode
    · rcases List.mem_cons.mp hc with rfl | hc
      · have := hK.size
        simp [Cond.before, Cond.holds, Cond.value, this]
      · simp only [List.append_nil, List.mem_append] at hc
        rcases hc with hc | hc
        · exact own_Kinds.sorts 0 (fun j => by simp) hK c hc
        · exact mv hZ (hT c hc) (List.all_eq_true.mp hTo c hc)
  obtain ⟨n, o, h1, h2, h3, h4⟩ := hM p e ha hc hk s m args below hf ((Spec.appliesLoose_iff hf).mpr ⟨a1, a2, a3, a4, a5, a6, a7, hpre⟩)
  obtain ⟨hpo, hfr⟩ := h4
  obtain ⟨v, hv, hq⟩ := hQ _ _ _ hpo
  have hfr' : s.WarmedH (stepsAlone p.tables e n s).vm ∧ s.sameBut ({ stepsAlone p.tables e n s with vm := s.vm } : State) [] := by
    simpa [Spec.frees, fieldLocs, arrayLocs, staticLocs, Jvm.Sym.specOf] using hfr
  have hFE : FrameEnd s o (stepsAlone p.tables e n s) [] 0 0 := ⟨⟨v, hv⟩, hfr'.1, hfr'.2.sameButNew 0 0⟩
  refine ⟨n, o, h1, h2, h3, v, [], hv, ⟨hq, rfl, (heap_of_end hFE).trans hh⟩, ?_⟩
  rw [hrc, hrs]; exact hFE
section
variable {p : Program} {l : Launch} {e : Env} {R : Room} {s : State} {m : MethodId} {args : Array Value} {below : List Frame} {meth : Method} {c : Code} {T : State} {locs : List Loc} {cells slots : Nat} {Z : State} {a0 : Array Value} {h : Heap}
theorem own_pure {W : Nat} (X : Stand p l e R s m args below meth c T locs cells slots) (hx : p.tables.exec = Jvm.exec) (hZ : Z.Warmed39 s.vm) {own : String} {index : Nat} {y : MethodName} {bytes : ByteArray} {maxL : Nat} {ret : Option FieldType} {ks : List Jvm.Sym.VKind} {post : Jvm.Cond} {TT : List Jvm.Cond} {room : Room}
    (hown : s.vm.findClass own = some m.cls) (w1 : (Jvm.Cond.methodLink own index y).before a0 Z = true) (w2 : (Jvm.Cond.static y).before a0 Z = true) (w3 : (Jvm.Cond.initialized y.cls).before a0 Z = true) (w4 : (Jvm.Cond.code y bytes maxL ret).before a0 Z = true) (hy : y.cls ≠ "java/lang/invoke/MethodHandle" ∧ y.cls ≠ "java/lang/invoke/VarHandle")
    (hM : MeetsLoose l y (Jvm.Sym.specOf y bytes maxL ret ks post TT [] room)) (hT : ∀ d ∈ TT, d.before a0 Z = true) (hTo : (TT.all fun d => d.onTables && d.keepsFace) = true) (hrc : room.cells = 0) (hrs : room.slots = 0) (eT : T.heap = h)
    {g : JFrame} (hg : g.method = m) (hsize : g.locals.size = c.maxLocals) {argsL rest : List Value} (hlen : ∀ sig, parseMethodDescriptor y.desc = some sig → argsL.length = sig.parameters.length)
    (hstack : g.stack = argsL.reverse ++ rest) (hW : 2 * g.monitorRoom + (rest.map fun v => v.category).sum ≤ W) (hd : decode c.code g.pc = .ok (.invokestatic index, 3)) (hK : own_Kinds ks argsL.toArray) {Qv : Option Value → Prop}
    (hQ : ∀ U o U', post.after argsL.toArray U o U' = true → ∃ v, o = .returned v ∧ Qv v) (hf : room.frames + 1 ≤ R.frames) (hl : W + (maxL + 11) + room.locals ≤ R.locals) (hc : cells ≤ R.cells) (hs : slots ≤ R.slots) :
    ∃ (v : Option Value) (T' : State), Stand p l e R s m args below meth c T' locs cells slots ∧ T'.heap = h ∧ Qv v ∧
      ∀ target, Steps p.tables e below (T'.setTop { g with pc := g.pc + 3, stack := v.toList ++ rest }) target → Steps p.tables e below (T.setTop g) target := by
  obtain ⟨v, _, ⟨T4, L4, k4, n4⟩, -, X4, ⟨Lc4, hQ4, l4, y4, z4⟩, st4⟩ := Jvm.LawKit.callS X hx (y := y) hown (mvT hZ w1) (mvT hZ w2) (mvT hZ w3) (mvT hZ w4) hy
    (backOf (W := W) (Q := fun v h' L => Qv v ∧ L = [] ∧ h' = h) (own_free hM hT hTo hrc hrs hK (h := h) hQ) hZ w4 w3 hf hl) (g := g) hg hsize (argsL := argsL) (rest := rest) hlen hstack hW hd (fun _ _ => ⟨rfl, eT, by rw [hrc]; exact hc, by rw [hrs]; exact hs⟩)
  dsimp only [Pt.U, Pt.locs, Pt.cells, Pt.slots] at X4 l4 y4 z4 st4 hQ4
  obtain ⟨hq, rfl, hh⟩ := hQ4
  rw [hrc] at y4
  rw [hrs] at z4
  simp only [List.append_nil, Nat.add_zero] at l4 y4 z4
  subst l4 y4 z4
  exact ⟨v, T4, X4, hh, hq, st4⟩
end
/-! own 10: what a contract's promise says of the value that comes back; joins -/
theorem own_ints (zs : List Int32) (i : Nat) : ∃ z : Int32, (zs.map Value.int).getD i (.int (0 : Int32)) = .int z := by
  induction zs generalizing i with
  | nil => exact ⟨0, rfl⟩
  | cons a zs ih =>
    cases i with
    | zero => exact ⟨a, rfl⟩
    | succ i => exact ih i
theorem own_inb {j z : Int32} (n : Int) (hz : z.toInt = n) (h0 : 0 ≤ j.toInt) (h1 : j.toInt < n) : ¬ j < 0 ∧ j < z := by
  rw [Int32.lt_iff_toInt_lt, Int32.lt_iff_toInt_lt, hz, show (0 : Int32).toInt = 0 from rfl]; omega
theorem own_says_get {T : Term} {A : Array Value} {U U' : State} {o : Outcome} (hc : T.closed = true) (h : (own_says T).after A U o U' = true) : ∃ w, o = .returned (some w) ∧ T.eval A U none [] U = some w := by
  simp only [own_says, Cond.after_and, Bool.and_eq_true] at h
  obtain ⟨y, e1, e2⟩ := Cond.eq_one (show (Jvm.Cond.eq .result (.old T)).holds A U (some o) U' [] = true from h.2)
  cases o with
  | threw a => simp [Term.eval] at e1
  | returned v =>
    have : v = some y := by simpa [Term.eval] using e1
    subst this
    refine ⟨y, rfl, ?_⟩
    have e3 : T.eval A U (some (.returned (some y))) [] U = some y := e2
    rw [Term.eval_closed (some (.returned (some y))) [] T U hc] at e3
    exact e3
theorem own_says_int {n : Int32} {A : Array Value} {U U' : State} {o : Outcome} (h : (own_says (.int n)).after A U o U' = true) : ∃ v, o = .returned v ∧ v = some (.int n) := by
  obtain ⟨w, h1, h2⟩ := own_says_get (T := .int n) rfl h
  cases h2
  exact ⟨_, h1, rfl⟩
theorem own_says_bool {T : Term} {A : Array Value} {P : Prop} [Decidable P] {U U' : State} {o : Outcome} (hc : T.closed = true) (hT : own_TB A U T P) (h : (own_says T).after A U o U' = true) : ∃ v, o = .returned v ∧ v = some (.int (if P then 1 else 0)) := by
  obtain ⟨w, h1, h2⟩ := own_says_get hc h
  refine ⟨_, h1, ?_⟩
  by_cases p : P
  · rw [hT.1 p] at h2; cases h2; simp [p]
  · rw [hT.2 p] at h2; cases h2; simp [p]
theorem own_join {α : Type} {tb : Tables} {e : Env} {below : List Frame} {F : State → Outcome → Prop} {U0 : State} (P : α → Prop) (U : α → State) (h : ∀ F', (∀ a, P a → own_G tb e below F' (U a)) → own_G tb e below F' U0) (k : ∀ a, P a → own_G tb e below F (U a)) : own_G tb e below F U0 := h F k
end Jvm.Pilot.@@N@@
namespace Jvm.Pilot.@@N@@
open Jvm Jvm.ClassFile Sem Op Lib Jvm.Free Jvm.Stand Jvm.LawKit Jvm.RoadKit Bundle Jvm.Pilot.@@N@@.Jvm.D
theorem own_keep (s1 c1 g1 : Int64) : (if (¬ ¬ (((g1 - c1).toInt < 0) ∨ (0 < (g1 - c1).toInt))) ∧ ((¬ (((s1 - c1).toInt < 0) ∨ (0 < (s1 - c1).toInt))) ∨ (((g1 - c1) ^^^ (-9223372036854775808)).toInt < ((s1 - c1) ^^^ (-9223372036854775808)).toInt)) then g1 else c1) = (if (c1 = s1 ∨ (¬ (g1 - c1) = (0 : Int64) ∧ ((g1 - c1) ^^^ (-9223372036854775808 : Int64)) < ((s1 - c1) ^^^ (-9223372036854775808 : Int64)))) then g1 else c1) := by
  have z0 : (0 : Int64).toInt = 0 := by decide
  have e5 := own_sub64 g1 c1
  have e6 := own_sub64 s1 c1
  have r1 := g1.toInt_lt
  have r2 := g1.le_toInt
  have r3 := c1.toInt_lt
  have r4 := c1.le_toInt
  have r5 := s1.toInt_lt
  have r6 := s1.le_toInt
  have hlt : ((g1 - c1) ^^^ (-9223372036854775808 : Int64) < (s1 - c1) ^^^ (-9223372036854775808 : Int64)) ↔ ((g1 - c1) ^^^ (-9223372036854775808 : Int64)).toInt < ((s1 - c1) ^^^ (-9223372036854775808 : Int64)).toInt := Int64.lt_iff_toInt_lt
  have h00 : (g1 - c1 = 0) ↔ (g1 - c1).toInt = 0 := by rw [← Int64.toInt_inj, z0]
  have hcs : c1 = s1 ↔ c1.toInt = s1.toInt := Int64.toInt_inj.symm
  simp only [hlt, h00, hcs]
  clear hlt h00 hcs
  generalize ((g1 - c1) ^^^ (-9223372036854775808 : Int64)).toInt = X1 at *
  generalize ((s1 - c1) ^^^ (-9223372036854775808 : Int64)).toInt = X2 at *
  generalize (g1 - c1).toInt = D1 at *
  generalize (s1 - c1).toInt = D2 at *
  by_cases p : D1 = 0
  · have q : g1 = c1 := Int64.toInt_inj.mp (by omega)
    rw [q]; simp
  · by_cases w : c1.toInt = s1.toInt
    · rw [if_pos (by omega), if_pos (by omega)]
    · by_cases y : X1 < X2
      · rw [if_pos (by omega), if_pos (by omega)]
      · rw [if_neg (by omega), if_neg (by omega)]
theorem pd_0 : parseMethodDescriptor "()V" = some ⟨[], none⟩ := by decide +kernel
theorem pd_1 : parseMethodDescriptor "(JJJ)Z" = some ⟨[.long, .long, .long], some .boolean⟩ := by decide +kernel
theorem pd_2 : parseMethodDescriptor "(JJ)V" = some ⟨[.long, .long], none⟩ := by decide +kernel
theorem pd_3 : parseMethodDescriptor "(J)V" = some ⟨[.long], none⟩ := by decide +kernel
theorem pd_4 : parseMethodDescriptor "()J" = some ⟨[], some .long⟩ := by decide +kernel
theorem pd_5 : parseMethodDescriptor "(JJJ)J" = some ⟨[.long, .long, .long], some .long⟩ := by decide +kernel
theorem d5_0 : decode jdk_22_method_1_code 0 = .ok (.aload_n 0, 1) := by decide +kernel
theorem d5_1 : decode jdk_22_method_1_code 1 = .ok (.invokespecial 1, 3) := by decide +kernel
theorem d5_4 : decode jdk_22_method_1_code 4 = .ok (.return_, 1) := by decide +kernel
theorem pn_5 : plainName "java/util/AbstractCollection" = true := by first | (simp [plainName, overriddenIn]; done) | decide +kernel
theorem ef_5 (m : MethodId) (a : Addr) : entryFrame m #[(.ref a)] 1 = (mkF m 0 #[.val (.ref a)] []) := by first | (simp [entryFrame, mkF, argsToLocals, Value.category]; done) | rfl
def Q5 (Z : State) (a : Addr) (h0 : Heap) (n0 : Nat) (v : Option Value) (h : Heap) (L : List Loc) : Prop := v = none ∧ Fr n0 L ∧ h = h0
set_option maxRecDepth 65536 in
set_option maxHeartbeats 40000000 in
theorem rm5 (l : Launch) (Z : State) (a0 : Array Value) (hw : ∀ d ∈ tables_1, d.before a0 Z = true) (ws : List Jvm.Cond) (a : Addr) (h0 : Heap) (n0 : Nat) (Z0 : n0 ≤ h0.size) :
    MetFree l (⟨"java/util/AbstractCollection", "<init>", "()V"⟩ : MethodName) (head1 (Jvm.Cond.code (⟨"java/util/AbstractCollection", "<init>", "()V"⟩ : MethodName) jdk_22_method_1_code 1 none :: ws) ({ frames := 1, cells := 0, slots := 0, locals := 12 } : Room)) (fun as' U => as' = #[(.ref a)] ∧ Z.Warmed39 U.vm ∧ U.heap = h0) (fun _ _ _ _ _ => True) (fun _ U o U' => ∃ v L, o = .returned v ∧ Q5 Z a h0 n0 v U'.heap L ∧ FrameEnd U o U' L ({ frames := 1, cells := 0, slots := 0, locals := 12 } : Room).cells ({ frames := 1, cells := 0, slots := 0, locals := 12 } : Room).slots) := by
  refine MetFree.of_bodySF (plainFor_of_name pn_5) hisR ?_
  intro p e s m args below meth c s₁ Bd hml0 hP hK
  obtain ⟨rfl, hZ, hh⟩ := hP
  have hx := Bd.exec
  have hby := Bd.bytes
  have hml : c.maxLocals = 1 := hml0
  have hown : s.vm.findClass "java/util/AbstractCollection" = some m.cls := findClass_of_methodNamed Bd.named
  have hnm := (name_of_methodNamed Bd.named Bd.method).1
  have X0 : Stand p l e ({ frames := 1, cells := 0, slots := 0, locals := 12 } : Room) s m #[(.ref a)] below meth c s₁ [] 0 0 := Stand.of_body Bd
  have e0 : s₁.heap = h0 := by rw [← hh, Bd.state]; rfl
  have N0 := Fr.nil n0
  refine own_via (fun t k => castTop (ef_5 m a) k) ?_
  show own_G _ _ _ _ (s₁.setTop (mkF m 0 #[.val (.ref a)] []))
  refine own_via (fun _ k => XS.aloadN X0.here hx rfl (hb hby d5_0) rfl rfl k) ?_
  show own_G _ _ _ _ (s₁.setTop (mkF m 1 #[.val (.ref a)] [(.ref a)]))
  obtain ⟨T1, X1, e1, st1⟩ := initO X0 hx hZ hown (hw _ (List.mem_of_getElem? (i := 27) rfl)) (hw _ (List.mem_of_getElem? (i := 7) rfl)) (hw _ (List.mem_of_getElem? (i := 8) rfl)) e0 (g := (mkF m 1 #[.val (.ref a)] [(.ref a)])) rfl (by rw [hml]; rfl) rfl (hb hby d5_1) (by decide) (W := 0) (by show 2 * 0 + _ ≤ _; exact Nat.le_of_eq rfl) (by decide)
  refine own_via st1 ?_
  show own_G _ _ _ _ (T1.setTop (mkF m 4 #[.val (.ref a)] []))
  obtain ⟨fs, hr, hrun, hended, hW, hsame⟩ := X1.leave (v := none) (fun _ => rfl)
  refine ⟨_, _, ?_, hrun, hended, _, _, rfl, ?_, ⟨_, rfl⟩, hW, hsame.mono (by decide) (by decide)⟩
  · exact X1.returnOut hx Bd.returns (hb hby d5_4) hr
  · show Q5 Z a h0 n0 _ T1.heap _
    rw [e1]
    exact ⟨rfl, N0, rfl⟩
theorem d4_0 : decode jdk_39_method_1_code 0 = .ok (.aload_n 0, 1) := by decide +kernel
theorem d4_1 : decode jdk_39_method_1_code 1 = .ok (.invokespecial 1, 3) := by decide +kernel
theorem d4_4 : decode jdk_39_method_1_code 4 = .ok (.aload_n 0, 1) := by decide +kernel
theorem d4_5 : decode jdk_39_method_1_code 5 = .ok (.iconst 0, 1) := by decide +kernel
theorem d4_6 : decode jdk_39_method_1_code 6 = .ok (.putfield 7, 3) := by decide +kernel
theorem d4_9 : decode jdk_39_method_1_code 9 = .ok (.return_, 1) := by decide +kernel
theorem pn_4 : plainName "java/util/AbstractList" = true := by first | (simp [plainName, overriddenIn]; done) | decide +kernel
theorem ef_4 (m : MethodId) (a : Addr) : entryFrame m #[(.ref a)] 1 = (mkF m 0 #[.val (.ref a)] []) := by first | (simp [entryFrame, mkF, argsToLocals, Value.category]; done) | rfl
def Q4 (Z : State) (a : Addr) (o1 : Addr) (h0 : Heap) (n0 : Nat) (v : Option Value) (h : Heap) (L : List Loc) : Prop := v = none ∧ Fr n0 L ∧ Keep h0 h [a] ∧ Exa Z h a "java/util/ArrayList" ∧ Fld Z h a "java/util/ArrayList" "elementData" "[Ljava/lang/Object;" .null ∧ Sta Z h "java/util/ArrayList" "DEFAULTCAPACITY_EMPTY_ELEMENTDATA" "[Ljava/lang/Object;" (.ref o1)
set_option maxRecDepth 65536 in
set_option maxHeartbeats 40000000 in
theorem rm4 (l : Launch) (Z : State) (a0 : Array Value) (hw : ∀ d ∈ tables_1, d.before a0 Z = true) (ws : List Jvm.Cond) (a : Addr) (o1 : Addr) (h0 : Heap) (n0 : Nat) (Z0 : n0 ≤ h0.size) (E_a : Exa Z h0 a "java/util/ArrayList") (F_a_modCount : Fld Z h0 a "java/util/AbstractList" "modCount" "I" (.int 0)) (F_a_elementData : Fld Z h0 a "java/util/ArrayList" "elementData" "[Ljava/lang/Object;" .null) (S_d : Sta Z h0 "java/util/ArrayList" "DEFAULTCAPACITY_EMPTY_ELEMENTDATA" "[Ljava/lang/Object;" (.ref o1)) (g_a : n0 ≤ a) :
    MetFree l (⟨"java/util/AbstractList", "<init>", "()V"⟩ : MethodName) (head1 (Jvm.Cond.code (⟨"java/util/AbstractList", "<init>", "()V"⟩ : MethodName) jdk_39_method_1_code 1 none :: ws) ({ frames := 2, cells := 0, slots := 0, locals := 30 } : Room)) (fun as' U => as' = #[(.ref a)] ∧ Z.Warmed39 U.vm ∧ U.heap = h0) (fun _ _ _ _ _ => True) (fun _ U o U' => ∃ v L, o = .returned v ∧ Q4 Z a o1 h0 n0 v U'.heap L ∧ FrameEnd U o U' L ({ frames := 2, cells := 0, slots := 0, locals := 30 } : Room).cells ({ frames := 2, cells := 0, slots := 0, locals := 30 } : Room).slots) := by
  refine MetFree.of_bodySF (plainFor_of_name pn_4) hisR ?_
  intro p e s m args below meth c s₁ Bd hml0 hP hK
  obtain ⟨rfl, hZ, hh⟩ := hP
  have hx := Bd.exec
  have hby := Bd.bytes
  have hml : c.maxLocals = 1 := hml0
  have hown : s.vm.findClass "java/util/AbstractList" = some m.cls := findClass_of_methodNamed Bd.named
  have hnm := (name_of_methodNamed Bd.named Bd.method).1
  have X0 : Stand p l e ({ frames := 2, cells := 0, slots := 0, locals := 30 } : Room) s m #[(.ref a)] below meth c s₁ [] 0 0 := Stand.of_body Bd
  have e0 : s₁.heap = h0 := by rw [← hh, Bd.state]; rfl
  have N0 := Fr.nil n0
  have K : Keep h0 h0 [a] := Keep.refl _ _
  refine own_via (fun t k => castTop (ef_4 m a) k) ?_
  show own_G _ _ _ _ (s₁.setTop (mkF m 0 #[.val (.ref a)] []))
  refine own_via (fun _ k => XS.aloadN X0.here hx rfl (hb hby d4_0) rfl rfl k) ?_
  show own_G _ _ _ _ (s₁.setTop (mkF m 1 #[.val (.ref a)] [(.ref a)]))
  obtain ⟨_, _, ⟨T2, L2, k2, n2⟩, -, X2, ⟨Lc2, hQ2, l2, y2, z2⟩, st2⟩ := X0.specialBack hx (y := (⟨"java/util/AbstractCollection", "<init>", "()V"⟩ : MethodName)) rfl hown (mvT hZ (hw _ (List.mem_of_getElem? (i := 21) rfl))) (mvT hZ (hw _ (List.mem_of_getElem? (i := 22) rfl))) (mvT hZ (hw _ (List.mem_of_getElem? (i := 26) rfl))) (by decide) (backOf (W := 0) (rm5 l Z a0 hw [] a h0 n0 Z0) hZ (hw _ (List.mem_of_getElem? (i := 26) rfl)) (hw _ (List.mem_of_getElem? (i := 25) rfl)) (by decide) (by decide)) (g := (mkF m 1 #[.val (.ref a)] [(.ref a)])) rfl (by rw [hml]; rfl) (Steps.refl _) (a := a) (argsL := []) (rest := []) (lenOf pd_0 rfl) rfl (by show 2 * 0 + _ ≤ _; exact Nat.le_of_eq rfl) (hb hby d4_1) (fun _ _ => ⟨rfl, e0, Nat.le_of_ble_eq_true rfl, Nat.le_of_ble_eq_true rfl⟩)
  dsimp only [Pt.U, Pt.locs, Pt.cells, Pt.slots] at X2 l2 y2 z2 st2 hQ2
  subst l2 y2 z2
  obtain ⟨rfl, N2q, e2⟩ := hQ2
  have N2 := Fr.app N0 N2q
  refine own_via (fun _ kt => st2.trans kt) ?_
  show own_G _ _ _ _ (T2.setTop (mkF m 4 #[.val (.ref a)] []))
  refine own_via (fun _ k => XS.aloadN X2.here hx rfl (hb hby d4_4) rfl rfl k) ?_
  show own_G _ _ _ _ (T2.setTop (mkF m 5 #[.val (.ref a)] [(.ref a)]))
  refine own_via (fun _ k => XS.iconst X2.here hx rfl (hb hby d4_5) k) ?_
  show own_G _ _ _ _ (T2.setTop (mkF m 6 #[.val (.ref a)] [(.int (0 : Int32)), (.ref a)]))
  obtain ⟨T3, h3, X3, e3, W3, st3⟩ := putF X2 hx hZ hown (host := "") (Or.inl (hw _ (List.mem_of_getElem? (i := 28) rfl))) Via.refl e2 F_a_modCount E_a (Or.inl (hw _ (List.mem_of_getElem? (i := 29) rfl))) (hw _ (List.mem_of_getElem? (i := 10) rfl)) (ty := .int) (by decide) rfl rfl (g := (mkF m 6 #[.val (.ref a)] [(.int (0 : Int32)), (.ref a)])) rfl rfl (hb hby d4_6)
  have F_a_modCount := F_a_modCount.same W3
  have F_a_elementData := F_a_elementData.other W3 (Or.inr (slot_ne (Or.inl (hw _ (List.mem_of_getElem? (i := 32) rfl))) (Or.inl (hw _ (List.mem_of_getElem? (i := 29) rfl))) (by decide) (t := (.array (.object "java/lang/Object"))) (t' := .int) (by decide) (by decide)))
  have E_a := E_a.wr W3
  have S_d := S_d.wr W3
  have Z0 := Nat.le_trans Z0 (Keep.of_wr W3).1
  have K := K.wr W3 (Or.inl (by simp))
  have N3 := Fr.snoc X3 N2 g_a
  refine own_via st3 ?_
  show own_G _ _ _ _ (T3.setTop (mkF m 9 #[.val (.ref a)] []))
  obtain ⟨fs, hr, hrun, hended, hW, hsame⟩ := X3.leave (v := none) (fun _ => rfl)
  refine ⟨_, _, ?_, hrun, hended, _, _, rfl, ?_, ⟨_, rfl⟩, hW, hsame.mono (by decide) (by decide)⟩
  · exact X3.returnOut hx Bd.returns (hb hby d4_9) hr
  · show Q4 Z a o1 h0 n0 _ T3.heap _
    rw [e3]
    exact ⟨rfl, N3, K, E_a, F_a_elementData, S_d⟩
theorem d3_0 : decode jdk_38_method_2_code 0 = .ok (.aload_n 0, 1) := by decide +kernel
theorem d3_1 : decode jdk_38_method_2_code 1 = .ok (.invokespecial 1, 3) := by decide +kernel
theorem d3_4 : decode jdk_38_method_2_code 4 = .ok (.aload_n 0, 1) := by decide +kernel
theorem d3_5 : decode jdk_38_method_2_code 5 = .ok (.getstatic 39, 3) := by decide +kernel
theorem d3_8 : decode jdk_38_method_2_code 8 = .ok (.putfield 9, 3) := by decide +kernel
theorem d3_11 : decode jdk_38_method_2_code 11 = .ok (.return_, 1) := by decide +kernel
theorem pn_3 : plainName "java/util/ArrayList" = true := by first | (simp [plainName, overriddenIn]; done) | decide +kernel
theorem ef_3 (m : MethodId) (a : Addr) : entryFrame m #[(.ref a)] 1 = (mkF m 0 #[.val (.ref a)] []) := by first | (simp [entryFrame, mkF, argsToLocals, Value.category]; done) | rfl
def Q3 (Z : State) (a : Addr) (o1 : Addr) (h0 : Heap) (n0 : Nat) (v : Option Value) (h : Heap) (L : List Loc) : Prop := v = none ∧ Fr n0 L ∧ Keep h0 h [a] ∧ Exa Z h a "java/util/ArrayList"
set_option maxRecDepth 65536 in
set_option maxHeartbeats 40000000 in
theorem rm3 (l : Launch) (Z : State) (a0 : Array Value) (hw : ∀ d ∈ tables_1, d.before a0 Z = true) (ws : List Jvm.Cond) (a : Addr) (o1 : Addr) (h0 : Heap) (n0 : Nat) (Z0 : n0 ≤ h0.size) (E_a : Exa Z h0 a "java/util/ArrayList") (F_a_modCount : Fld Z h0 a "java/util/AbstractList" "modCount" "I" (.int 0)) (F_a_elementData : Fld Z h0 a "java/util/ArrayList" "elementData" "[Ljava/lang/Object;" .null) (S_d : Sta Z h0 "java/util/ArrayList" "DEFAULTCAPACITY_EMPTY_ELEMENTDATA" "[Ljava/lang/Object;" (.ref o1)) (g_a : n0 ≤ a) :
    MetFree l (⟨"java/util/ArrayList", "<init>", "()V"⟩ : MethodName) (head1 (Jvm.Cond.code (⟨"java/util/ArrayList", "<init>", "()V"⟩ : MethodName) jdk_38_method_2_code 1 none :: ws) ({ frames := 3, cells := 0, slots := 0, locals := 50 } : Room)) (fun as' U => as' = #[(.ref a)] ∧ Z.Warmed39 U.vm ∧ U.heap = h0) (fun _ _ _ _ _ => True) (fun _ U o U' => ∃ v L, o = .returned v ∧ Q3 Z a o1 h0 n0 v U'.heap L ∧ FrameEnd U o U' L ({ frames := 3, cells := 0, slots := 0, locals := 50 } : Room).cells ({ frames := 3, cells := 0, slots := 0, locals := 50 } : Room).slots) := by
  refine MetFree.of_bodySF (plainFor_of_name pn_3) hisR ?_
  intro p e s m args below meth c s₁ Bd hml0 hP hK
  obtain ⟨rfl, hZ, hh⟩ := hP
  have hx := Bd.exec
  have hby := Bd.bytes
  have hml : c.maxLocals = 1 := hml0
  have hown : s.vm.findClass "java/util/ArrayList" = some m.cls := findClass_of_methodNamed Bd.named
  have hnm := (name_of_methodNamed Bd.named Bd.method).1
  have X0 : Stand p l e ({ frames := 3, cells := 0, slots := 0, locals := 50 } : Room) s m #[(.ref a)] below meth c s₁ [] 0 0 := Stand.of_body Bd
  have e0 : s₁.heap = h0 := by rw [← hh, Bd.state]; rfl
  have N0 := Fr.nil n0
  have K : Keep h0 h0 [a] := Keep.refl _ _
  refine own_via (fun t k => castTop (ef_3 m a) k) ?_
  show own_G _ _ _ _ (s₁.setTop (mkF m 0 #[.val (.ref a)] []))
  refine own_via (fun _ k => XS.aloadN X0.here hx rfl (hb hby d3_0) rfl rfl k) ?_
  show own_G _ _ _ _ (s₁.setTop (mkF m 1 #[.val (.ref a)] [(.ref a)]))
  obtain ⟨_, _, ⟨T4, L4, k4, n4⟩, -, X4, ⟨Lc4, hQ4, l4, y4, z4⟩, st4⟩ := X0.specialBack hx (y := (⟨"java/util/AbstractList", "<init>", "()V"⟩ : MethodName)) rfl hown (mvT hZ (hw _ (List.mem_of_getElem? (i := 15) rfl))) (mvT hZ (hw _ (List.mem_of_getElem? (i := 16) rfl))) (mvT hZ (hw _ (List.mem_of_getElem? (i := 20) rfl))) (by decide) (backOf (W := 0) (rm4 l Z a0 hw [] a o1 h0 n0 Z0 E_a F_a_modCount F_a_elementData S_d g_a) hZ (hw _ (List.mem_of_getElem? (i := 20) rfl)) (hw _ (List.mem_of_getElem? (i := 19) rfl)) (by decide) (by decide)) (g := (mkF m 1 #[.val (.ref a)] [(.ref a)])) rfl (by rw [hml]; rfl) (Steps.refl _) (a := a) (argsL := []) (rest := []) (lenOf pd_0 rfl) rfl (by show 2 * 0 + _ ≤ _; exact Nat.le_of_eq rfl) (hb hby d3_1) (fun _ _ => ⟨rfl, e0, Nat.le_of_ble_eq_true rfl, Nat.le_of_ble_eq_true rfl⟩)
  dsimp only [Pt.U, Pt.locs, Pt.cells, Pt.slots] at X4 l4 y4 z4 st4 hQ4
  subst l4 y4 z4
  obtain ⟨rfl, N4q, K4, -, F_a_elementData, S_d⟩ := hQ4
  have N4 := Fr.app N0 N4q
  have E_a := E_a.keep K4
  have Z0 := Nat.le_trans Z0 K4.1
  have K := K.trans K4 (fun z hz => by cases List.mem_singleton.mp hz; exact Or.inl (by simp))
  refine own_via (fun _ kt => st4.trans kt) ?_
  show own_G _ _ _ _ (T4.setTop (mkF m 4 #[.val (.ref a)] []))
  refine own_via (fun _ k => XS.aloadN X4.here hx rfl (hb hby d3_4) rfl rfl k) ?_
  show own_G _ _ _ _ (T4.setTop (mkF m 5 #[.val (.ref a)] [(.ref a)]))
  obtain ⟨T5, X5, e5, st5⟩ := getS2 X4 hx hZ hown (host := "") (Or.inl (hw _ (List.mem_of_getElem? (i := 30) rfl))) Via.refl rfl S_d (g := (mkF m 5 #[.val (.ref a)] [(.ref a)])) rfl (hb hby d3_5)
  refine own_via st5 ?_
  show own_G _ _ _ _ (T5.setTop (mkF m 8 #[.val (.ref a)] [(.ref o1), (.ref a)]))
  obtain ⟨T6, h6, X6, e6, W6, st6⟩ := putF X5 hx hZ hown (host := "") (Or.inl (hw _ (List.mem_of_getElem? (i := 31) rfl))) Via.refl e5 F_a_elementData E_a (Or.inl (hw _ (List.mem_of_getElem? (i := 32) rfl))) (hw _ (List.mem_of_getElem? (i := 10) rfl)) (ty := (.array (.object "java/lang/Object"))) (by decide) rfl rfl (g := (mkF m 8 #[.val (.ref a)] [(.ref o1), (.ref a)])) rfl rfl (hb hby d3_8)
  have F_a_elementData := F_a_elementData.same W6
  have E_a := E_a.wr W6
  have Z0 := Nat.le_trans Z0 (Keep.of_wr W6).1
  have K := K.wr W6 (Or.inl (by simp))
  have N6 := Fr.snoc X6 N4 g_a
  refine own_via st6 ?_
  show own_G _ _ _ _ (T6.setTop (mkF m 11 #[.val (.ref a)] []))
  obtain ⟨fs, hr, hrun, hended, hW, hsame⟩ := X6.leave (v := none) (fun _ => rfl)
  refine ⟨_, _, ?_, hrun, hended, _, _, rfl, ?_, ⟨_, rfl⟩, hW, hsame.mono (by decide) (by decide)⟩
  · exact X6.returnOut hx Bd.returns (hb hby d3_11) hr
  · show Q3 Z a o1 h0 n0 _ T6.heap _
    rw [e6]
    exact ⟨rfl, N6, K, E_a⟩
theorem d1_0 : decode prog_2_method_1_code 0 = .ok (.aload_n 0, 1) := by decide +kernel
theorem d1_1 : decode prog_2_method_1_code 1 = .ok (.invokespecial 1, 3) := by decide +kernel
theorem d1_4 : decode prog_2_method_1_code 4 = .ok (.aload_n 0, 1) := by decide +kernel
theorem d1_5 : decode prog_2_method_1_code 5 = .ok (.new 7, 3) := by decide +kernel
theorem d1_8 : decode prog_2_method_1_code 8 = .ok (.dup, 1) := by decide +kernel
theorem d1_9 : decode prog_2_method_1_code 9 = .ok (.invokespecial 9, 3) := by decide +kernel
theorem d1_12 : decode prog_2_method_1_code 12 = .ok (.putfield 10, 3) := by decide +kernel
theorem d1_15 : decode prog_2_method_1_code 15 = .ok (.aload_n 0, 1) := by decide +kernel
theorem d1_16 : decode prog_2_method_1_code 16 = .ok (.lload_n 1, 1) := by decide +kernel
theorem d1_17 : decode prog_2_method_1_code 17 = .ok (.putfield 16, 3) := by decide +kernel
theorem d1_20 : decode prog_2_method_1_code 20 = .ok (.aload_n 0, 1) := by decide +kernel
theorem d1_21 : decode prog_2_method_1_code 21 = .ok (.lload_n 3, 1) := by decide +kernel
theorem d1_22 : decode prog_2_method_1_code 22 = .ok (.putfield 20, 3) := by decide +kernel
theorem d1_25 : decode prog_2_method_1_code 25 = .ok (.return_, 1) := by decide +kernel
theorem pn_1 : plainName "com/example/triplemesh/triplemesh/Holdings" = true := by first | (simp [plainName, overriddenIn]; done) | decide +kernel
theorem ef_1 (m : MethodId) (a : Addr) (q1 : Int64) (q2 : Int64) : entryFrame m #[(.ref a), (.long q1), (.long q2)] 5 = (mkF m 0 #[.val (.ref a), .val (.long q1), .second, .val (.long q2), .second] []) := by first | (simp [entryFrame, mkF, argsToLocals, Value.category]; done) | rfl
def Q1 (Z : State) (a : Addr) (q1 : Int64) (q2 : Int64) (o1 : Addr) (h0 : Heap) (n0 : Nat) (v : Option Value) (h : Heap) (L : List Loc) : Prop := v = none ∧ Fr n0 L ∧ Keep h0 h [a] ∧ Exa Z h a "com/example/triplemesh/triplemesh/Holdings" ∧ Fld Z h a "com/example/triplemesh/triplemesh/Holdings" "self" "J" (.long q1) ∧ Fld Z h a "com/example/triplemesh/triplemesh/Holdings" "copiesFrom" "J" (.long q2)
set_option maxRecDepth 65536 in
set_option maxHeartbeats 40000000 in
theorem rm1 (l : Launch) (Z : State) (a0 : Array Value) (hw : ∀ d ∈ tables_1, d.before a0 Z = true) (ws : List Jvm.Cond) (a : Addr) (q1 : Int64) (q2 : Int64) (o1 : Addr) (h0 : Heap) (n0 : Nat) (Z0 : n0 ≤ h0.size) (E_a : Exa Z h0 a "com/example/triplemesh/triplemesh/Holdings") (F_a_lost : Fld Z h0 a "com/example/triplemesh/triplemesh/Holdings" "lost" "Ljava/util/List;" .null) (F_a_self : Fld Z h0 a "com/example/triplemesh/triplemesh/Holdings" "self" "J" (.long 0)) (F_a_copiesFrom : Fld Z h0 a "com/example/triplemesh/triplemesh/Holdings" "copiesFrom" "J" (.long 0)) (S_d : Sta Z h0 "java/util/ArrayList" "DEFAULTCAPACITY_EMPTY_ELEMENTDATA" "[Ljava/lang/Object;" (.ref o1)) (g_a : n0 ≤ a) :
    MetFree l (⟨"com/example/triplemesh/triplemesh/Holdings", "<init>", "(JJ)V"⟩ : MethodName) (head1 (Jvm.Cond.code (⟨"com/example/triplemesh/triplemesh/Holdings", "<init>", "(JJ)V"⟩ : MethodName) prog_2_method_1_code 5 none :: ws) ({ frames := 4, cells := 1, slots := 3, locals := 80 } : Room)) (fun as' U => as' = #[(.ref a), (.long q1), (.long q2)] ∧ Z.Warmed39 U.vm ∧ U.heap = h0) (fun _ _ _ _ _ => True) (fun _ U o U' => ∃ v L, o = .returned v ∧ Q1 Z a q1 q2 o1 h0 n0 v U'.heap L ∧ FrameEnd U o U' L ({ frames := 4, cells := 1, slots := 3, locals := 80 } : Room).cells ({ frames := 4, cells := 1, slots := 3, locals := 80 } : Room).slots) := by
  refine MetFree.of_bodySF (plainFor_of_name pn_1) hisR ?_
  intro p e s m args below meth c s₁ Bd hml0 hP hK
  obtain ⟨rfl, hZ, hh⟩ := hP
  have hx := Bd.exec
  have hby := Bd.bytes
  have hml : c.maxLocals = 5 := hml0
  have hown : s.vm.findClass "com/example/triplemesh/triplemesh/Holdings" = some m.cls := findClass_of_methodNamed Bd.named
  have hnm := (name_of_methodNamed Bd.named Bd.method).1
  have X0 : Stand p l e ({ frames := 4, cells := 1, slots := 3, locals := 80 } : Room) s m #[(.ref a), (.long q1), (.long q2)] below meth c s₁ [] 0 0 := Stand.of_body Bd
  have e0 : s₁.heap = h0 := by rw [← hh, Bd.state]; rfl
  have N0 := Fr.nil n0
  have K : Keep h0 h0 [a] := Keep.refl _ _
  refine own_via (fun t k => castTop (ef_1 m a q1 q2) k) ?_
  show own_G _ _ _ _ (s₁.setTop (mkF m 0 #[.val (.ref a), .val (.long q1), .second, .val (.long q2), .second] []))
  refine own_via (fun _ k => XS.aloadN X0.here hx rfl (hb hby d1_0) rfl rfl k) ?_
  show own_G _ _ _ _ (s₁.setTop (mkF m 1 #[.val (.ref a), .val (.long q1), .second, .val (.long q2), .second] [(.ref a)]))
  obtain ⟨T7, X7, e7, st7⟩ := initO X0 hx hZ hown (hw _ (List.mem_of_getElem? (i := 6) rfl)) (hw _ (List.mem_of_getElem? (i := 7) rfl)) (hw _ (List.mem_of_getElem? (i := 8) rfl)) e0 (g := (mkF m 1 #[.val (.ref a), .val (.long q1), .second, .val (.long q2), .second] [(.ref a)])) rfl (by rw [hml]; rfl) rfl (hb hby d1_1) (by decide) (W := 0) (by show 2 * 0 + _ ≤ _; exact Nat.le_of_eq rfl) (by decide)
  refine own_via st7 ?_
  show own_G _ _ _ _ (T7.setTop (mkF m 4 #[.val (.ref a), .val (.long q1), .second, .val (.long q2), .second] []))
  refine own_via (fun _ k => XS.aloadN X7.here hx rfl (hb hby d1_4) rfl rfl k) ?_
  show own_G _ _ _ _ (T7.setTop (mkF m 5 #[.val (.ref a), .val (.long q1), .second, .val (.long q2), .second] [(.ref a)]))
  obtain ⟨T8, h8, X8, e8, E8, A8, D8, -, st8⟩ := newO X7 hx hZ hown (hw _ (List.mem_of_getElem? (i := 9) rfl)) (hw _ (List.mem_of_getElem? (i := 10) rfl)) (hw _ (List.mem_of_getElem? (i := 11) rfl)) e7 (g := (mkF m 5 #[.val (.ref a), .val (.long q1), .second, .val (.long q2), .second] [(.ref a)])) rfl (hb hby d1_5) (by decide) (by decide)
  obtain ⟨b, g8⟩ : ∃ z, z = h0.size := ⟨_, rfl⟩
  rw [← g8] at A8 D8 st8
  have g_b : n0 ≤ b := Nat.le_trans Z0 (Nat.le_of_eq g8.symm)
  have sz_b : h0.size ≤ b := Nat.le_trans K.1 (Nat.le_of_eq g8.symm)
  have ne_a_b : a ≠ b := Nat.ne_of_lt (Nat.lt_of_lt_of_le E_a.lt (Nat.le_of_eq g8.symm))
  have E_a := E_a.ext E8
  have F_a_lost := F_a_lost.ext E8
  have F_a_self := F_a_self.ext E8
  have F_a_copiesFrom := F_a_copiesFrom.ext E8
  have S_d := S_d.ext E8
  have Z0 := Nat.le_trans Z0 E8.1
  have K := K.ext E8
  have E_b := A8
  have F_b_modCount : Fld Z h8 b "java/util/AbstractList" "modCount" "I" (.int (0 : Int32)) := D8 (Or.inl (hw _ (List.mem_of_getElem? (i := 29) rfl))) (ty := .int) (by decide)
  have F_b_elementData : Fld Z h8 b "java/util/ArrayList" "elementData" "[Ljava/lang/Object;" .null := D8 (Or.inl (hw _ (List.mem_of_getElem? (i := 32) rfl))) (ty := (.array (.object "java/lang/Object"))) (by decide)
  refine own_via st8 ?_
  show own_G _ _ _ _ (T8.setTop (mkF m 8 #[.val (.ref a), .val (.long q1), .second, .val (.long q2), .second] [(.ref b), (.ref a)]))
  refine own_via (fun _ k => XS.dup X8.here hx rfl (hb hby d1_8) rfl rfl k) ?_
  show own_G _ _ _ _ (T8.setTop (mkF m 9 #[.val (.ref a), .val (.long q1), .second, .val (.long q2), .second] [(.ref b), (.ref b), (.ref a)]))
  obtain ⟨_, _, ⟨T9, L9, k9, n9⟩, -, X9, ⟨Lc9, hQ9, l9, y9, z9⟩, st9⟩ := X8.specialBack hx (y := (⟨"java/util/ArrayList", "<init>", "()V"⟩ : MethodName)) rfl hown (mvT hZ (hw _ (List.mem_of_getElem? (i := 12) rfl))) (mvT hZ (hw _ (List.mem_of_getElem? (i := 13) rfl))) (mvT hZ (hw _ (List.mem_of_getElem? (i := 14) rfl))) (by decide) (backOf (W := 2) (rm3 l Z a0 hw [] b o1 h8 n0 Z0 E_b F_b_modCount F_b_elementData S_d g_b) hZ (hw _ (List.mem_of_getElem? (i := 14) rfl)) (hw _ (List.mem_of_getElem? (i := 11) rfl)) (by decide) (by decide)) (g := (mkF m 9 #[.val (.ref a), .val (.long q1), .second, .val (.long q2), .second] [(.ref b), (.ref b), (.ref a)])) rfl (by rw [hml]; rfl) (Steps.refl _) (a := b) (argsL := []) (rest := [(.ref b), (.ref a)]) (lenOf pd_0 rfl) rfl (by show 2 * 0 + _ ≤ _; exact Nat.le_of_eq rfl) (hb hby d1_9) (fun _ _ => ⟨rfl, e8, Nat.le_of_ble_eq_true rfl, Nat.le_of_ble_eq_true rfl⟩)
  dsimp only [Pt.U, Pt.locs, Pt.cells, Pt.slots] at X9 l9 y9 z9 st9 hQ9
  subst l9 y9 z9
  obtain ⟨rfl, N9q, K9, -⟩ := hQ9
  have N9 := Fr.app N0 N9q
  have E_a := E_a.keep K9
  have F_a_lost := F_a_lost.keep K9 (by simp [ne_a_b])
  have F_a_self := F_a_self.keep K9 (by simp [ne_a_b])
  have F_a_copiesFrom := F_a_copiesFrom.keep K9 (by simp [ne_a_b])
  have E_b := E_b.keep K9
  have Z0 := Nat.le_trans Z0 K9.1
  have K := K.trans K9 (fun z hz => by cases List.mem_singleton.mp hz; exact Or.inr sz_b)
  refine own_via (fun _ kt => st9.trans kt) ?_
  show own_G _ _ _ _ (T9.setTop (mkF m 12 #[.val (.ref a), .val (.long q1), .second, .val (.long q2), .second] [(.ref b), (.ref a)]))
  obtain ⟨T10, h10, X10, e10, W10, st10⟩ := putF X9 hx hZ hown (host := "") (Or.inl (hw _ (List.mem_of_getElem? (i := 33) rfl))) Via.refl rfl F_a_lost E_a (Or.inr ⟨(hw _ (List.mem_of_getElem? (i := 34) rfl)), rfl, hnm⟩) (hw _ (List.mem_of_getElem? (i := 1) rfl)) (ty := (.object "java/util/List")) (by decide) rfl rfl (g := (mkF m 12 #[.val (.ref a), .val (.long q1), .second, .val (.long q2), .second] [(.ref b), (.ref a)])) rfl rfl (hb hby d1_12)
  have F_a_lost := F_a_lost.same W10
  have F_a_self := F_a_self.other W10 (Or.inr (slot_ne (Or.inr (hw _ (List.mem_of_getElem? (i := 36) rfl))) (Or.inr (hw _ (List.mem_of_getElem? (i := 34) rfl))) (by decide) (t := .long) (t' := (.object "java/util/List")) (by decide) (by decide)))
  have F_a_copiesFrom := F_a_copiesFrom.other W10 (Or.inr (slot_ne (Or.inl (hw _ (List.mem_of_getElem? (i := 38) rfl))) (Or.inr (hw _ (List.mem_of_getElem? (i := 34) rfl))) (by decide) (t := .long) (t' := (.object "java/util/List")) (by decide) (by decide)))
  have E_a := E_a.wr W10
  have E_b := E_b.wr W10
  have Z0 := Nat.le_trans Z0 (Keep.of_wr W10).1
  have K := K.wr W10 (Or.inl (by simp))
  have N10 := Fr.snoc X10 N9 g_a
  refine own_via st10 ?_
  show own_G _ _ _ _ (T10.setTop (mkF m 15 #[.val (.ref a), .val (.long q1), .second, .val (.long q2), .second] []))
  refine own_via (fun _ k => XS.aloadN X10.here hx rfl (hb hby d1_15) rfl rfl k) ?_
  show own_G _ _ _ _ (T10.setTop (mkF m 16 #[.val (.ref a), .val (.long q1), .second, .val (.long q2), .second] [(.ref a)]))
  refine own_via (fun _ k => XS.lloadN X10.here hx rfl (hb hby d1_16) rfl k) ?_
  show own_G _ _ _ _ (T10.setTop (mkF m 17 #[.val (.ref a), .val (.long q1), .second, .val (.long q2), .second] [(.long q1), (.ref a)]))
  obtain ⟨T11, h11, X11, e11, W11, st11⟩ := putF X10 hx hZ hown (host := "") (Or.inl (hw _ (List.mem_of_getElem? (i := 35) rfl))) Via.refl e10 F_a_self E_a (Or.inr ⟨(hw _ (List.mem_of_getElem? (i := 36) rfl)), rfl, hnm⟩) (hw _ (List.mem_of_getElem? (i := 1) rfl)) (ty := .long) (by decide) rfl rfl (g := (mkF m 17 #[.val (.ref a), .val (.long q1), .second, .val (.long q2), .second] [(.long q1), (.ref a)])) rfl rfl (hb hby d1_17)
  have F_a_self := F_a_self.same W11
  have F_a_lost := F_a_lost.other W11 (Or.inr (slot_ne (Or.inr (hw _ (List.mem_of_getElem? (i := 34) rfl))) (Or.inr (hw _ (List.mem_of_getElem? (i := 36) rfl))) (by decide) (t := (.object "java/util/List")) (t' := .long) (by decide) (by decide)))
  have F_a_copiesFrom := F_a_copiesFrom.other W11 (Or.inr (slot_ne (Or.inl (hw _ (List.mem_of_getElem? (i := 38) rfl))) (Or.inr (hw _ (List.mem_of_getElem? (i := 36) rfl))) (by decide) (t := .long) (t' := .long) (by decide) (by decide)))
  have E_a := E_a.wr W11
  have E_b := E_b.wr W11
  have Z0 := Nat.le_trans Z0 (Keep.of_wr W11).1
  have K := K.wr W11 (Or.inl (by simp))
  have N11 := Fr.snoc X11 N10 g_a
  refine own_via st11 ?_
  show own_G _ _ _ _ (T11.setTop (mkF m 20 #[.val (.ref a), .val (.long q1), .second, .val (.long q2), .second] []))
  refine own_via (fun _ k => XS.aloadN X11.here hx rfl (hb hby d1_20) rfl rfl k) ?_
  show own_G _ _ _ _ (T11.setTop (mkF m 21 #[.val (.ref a), .val (.long q1), .second, .val (.long q2), .second] [(.ref a)]))
  refine own_via (fun _ k => XS.lloadN X11.here hx rfl (hb hby d1_21) rfl k) ?_
  show own_G _ _ _ _ (T11.setTop (mkF m 22 #[.val (.ref a), .val (.long q1), .second, .val (.long q2), .second] [(.long q2), (.ref a)]))
  obtain ⟨T12, h12, X12, e12, W12, st12⟩ := putF X11 hx hZ hown (host := "") (Or.inl (hw _ (List.mem_of_getElem? (i := 37) rfl))) Via.refl e11 F_a_copiesFrom E_a (Or.inl (hw _ (List.mem_of_getElem? (i := 38) rfl))) (hw _ (List.mem_of_getElem? (i := 1) rfl)) (ty := .long) (by decide) rfl rfl (g := (mkF m 22 #[.val (.ref a), .val (.long q1), .second, .val (.long q2), .second] [(.long q2), (.ref a)])) rfl rfl (hb hby d1_22)
  have F_a_copiesFrom := F_a_copiesFrom.same W12
  have F_a_lost := F_a_lost.other W12 (Or.inr (slot_ne (Or.inr (hw _ (List.mem_of_getElem? (i := 34) rfl))) (Or.inl (hw _ (List.mem_of_getElem? (i := 38) rfl))) (by decide) (t := (.object "java/util/List")) (t' := .long) (by decide) (by decide)))
  have F_a_self := F_a_self.other W12 (Or.inr (slot_ne (Or.inr (hw _ (List.mem_of_getElem? (i := 36) rfl))) (Or.inl (hw _ (List.mem_of_getElem? (i := 38) rfl))) (by decide) (t := .long) (t' := .long) (by decide) (by decide)))
  have E_a := E_a.wr W12
  have E_b := E_b.wr W12
  have Z0 := Nat.le_trans Z0 (Keep.of_wr W12).1
  have K := K.wr W12 (Or.inl (by simp))
  have N12 := Fr.snoc X12 N11 g_a
  refine own_via st12 ?_
  show own_G _ _ _ _ (T12.setTop (mkF m 25 #[.val (.ref a), .val (.long q1), .second, .val (.long q2), .second] []))
  obtain ⟨fs, hr, hrun, hended, hW, hsame⟩ := X12.leave (v := none) (fun _ => rfl)
  refine ⟨_, _, ?_, hrun, hended, _, _, rfl, ?_, ⟨_, rfl⟩, hW, hsame.mono (by decide) (by decide)⟩
  · exact X12.returnOut hx Bd.returns (hb hby d1_25) hr
  · show Q1 Z a q1 q2 o1 h0 n0 _ T12.heap _
    rw [e12]
    exact ⟨rfl, N12, K, E_a, F_a_self, F_a_copiesFrom⟩
theorem d8_0 : decode prog_2_method_8_code 0 = .ok (.lload_n 1, 1) := by decide +kernel
theorem d8_1 : decode prog_2_method_8_code 1 = .ok (.aload_n 0, 1) := by decide +kernel
theorem d8_2 : decode prog_2_method_8_code 2 = .ok (.getfield 20, 3) := by decide +kernel
theorem d8_5 : decode prog_2_method_8_code 5 = .ok (.aload_n 0, 1) := by decide +kernel
theorem d8_6 : decode prog_2_method_8_code 6 = .ok (.getfield 16, 3) := by decide +kernel
theorem d8_9 : decode prog_2_method_8_code 9 = .ok (.invokestatic 69, 3) := by decide +kernel
theorem d8_12 : decode prog_2_method_8_code 12 = .ok (.ifCond .eq 8, 3) := by decide +kernel
theorem d8_15 : decode prog_2_method_8_code 15 = .ok (.aload_n 0, 1) := by decide +kernel
theorem d8_16 : decode prog_2_method_8_code 16 = .ok (.lload_n 1, 1) := by decide +kernel
theorem d8_17 : decode prog_2_method_8_code 17 = .ok (.putfield 20, 3) := by decide +kernel
theorem d8_20 : decode prog_2_method_8_code 20 = .ok (.return_, 1) := by decide +kernel
theorem pn_8 : plainName "com/example/triplemesh/triplemesh/Holdings" = true := by first | (simp [plainName, overriddenIn]; done) | decide +kernel
theorem ef_8 (m : MethodId) (a : Addr) (q3 : Int64) : entryFrame m #[(.ref a), (.long q3)] 3 = (mkF m 0 #[.val (.ref a), .val (.long q3), .second] []) := by first | (simp [entryFrame, mkF, argsToLocals, Value.category]; done) | rfl
def Q8 (Z : State) (a : Addr) (q3 : Int64) (q1 : Int64) (q2 : Int64) (h0 : Heap) (n0 : Nat) (v : Option Value) (h : Heap) (L : List Loc) : Prop := v = none ∧ Fr n0 L ∧ Keep h0 h [a] ∧ Exa Z h a "com/example/triplemesh/triplemesh/Holdings" ∧ Fld Z h a "com/example/triplemesh/triplemesh/Holdings" "copiesFrom" "J" (.long (if (¬ ¬ (((q3 - q2).toInt < 0) ∨ (0 < (q3 - q2).toInt))) ∧ ((¬ (((q1 - q2).toInt < 0) ∨ (0 < (q1 - q2).toInt))) ∨ (((q3 - q2) ^^^ (-9223372036854775808)).toInt < ((q1 - q2) ^^^ (-9223372036854775808)).toInt)) then q3 else q2))
set_option maxRecDepth 65536 in
set_option maxHeartbeats 40000000 in
theorem rm8 (l : Launch) (Z : State) (a0 : Array Value) (hw : ∀ d ∈ tables_1, d.before a0 Z = true) (ws : List Jvm.Cond) (a : Addr) (q3 : Int64) (q1 : Int64) (q2 : Int64) (h0 : Heap) (n0 : Nat) (Z0 : n0 ≤ h0.size) (E_a : Exa Z h0 a "com/example/triplemesh/triplemesh/Holdings") (F_a_self : Fld Z h0 a "com/example/triplemesh/triplemesh/Holdings" "self" "J" (.long q1)) (F_a_copiesFrom : Fld Z h0 a "com/example/triplemesh/triplemesh/Holdings" "copiesFrom" "J" (.long q2)) (g_a : n0 ≤ a) :
    MetFree l (⟨"com/example/triplemesh/triplemesh/Holdings", "keepFrom", "(J)V"⟩ : MethodName) (head1 (Jvm.Cond.code (⟨"com/example/triplemesh/triplemesh/Holdings", "keepFrom", "(J)V"⟩ : MethodName) prog_2_method_8_code 3 none :: ws) ({ frames := 4, cells := 0, slots := 0, locals := 120 } : Room)) (fun as' U => as' = #[(.ref a), (.long q3)] ∧ Z.Warmed39 U.vm ∧ U.heap = h0) (fun _ _ _ _ _ => True) (fun _ U o U' => ∃ v L, o = .returned v ∧ Q8 Z a q3 q1 q2 h0 n0 v U'.heap L ∧ FrameEnd U o U' L ({ frames := 4, cells := 0, slots := 0, locals := 120 } : Room).cells ({ frames := 4, cells := 0, slots := 0, locals := 120 } : Room).slots) := by
  refine MetFree.of_bodySF (plainFor_of_name pn_8) hisR ?_
  intro p e s m args below meth c s₁ Bd hml0 hP hK
  obtain ⟨rfl, hZ, hh⟩ := hP
  have hx := Bd.exec
  have hby := Bd.bytes
  have hml : c.maxLocals = 3 := hml0
  have hown : s.vm.findClass "com/example/triplemesh/triplemesh/Holdings" = some m.cls := findClass_of_methodNamed Bd.named
  have hnm := (name_of_methodNamed Bd.named Bd.method).1
  have X0 : Stand p l e ({ frames := 4, cells := 0, slots := 0, locals := 120 } : Room) s m #[(.ref a), (.long q3)] below meth c s₁ [] 0 0 := Stand.of_body Bd
  have e0 : s₁.heap = h0 := by rw [← hh, Bd.state]; rfl
  have N0 := Fr.nil n0
  have K : Keep h0 h0 [a] := Keep.refl _ _
  refine own_via (fun t k => castTop (ef_8 m a q3) k) ?_
  show own_G _ _ _ _ (s₁.setTop (mkF m 0 #[.val (.ref a), .val (.long q3), .second] []))
  refine own_via (fun _ k => XS.lloadN X0.here hx rfl (hb hby d8_0) rfl k) ?_
  show own_G _ _ _ _ (s₁.setTop (mkF m 1 #[.val (.ref a), .val (.long q3), .second] [(.long q3)]))
  refine own_via (fun _ k => XS.aloadN X0.here hx rfl (hb hby d8_1) rfl rfl k) ?_
  show own_G _ _ _ _ (s₁.setTop (mkF m 2 #[.val (.ref a), .val (.long q3), .second] [(.ref a), (.long q3)]))
  obtain ⟨T13, X13, e13, st13⟩ := getF X0 hx hZ hown (host := "") (Or.inl (hw _ (List.mem_of_getElem? (i := 37) rfl))) Via.refl e0 F_a_copiesFrom (g := (mkF m 2 #[.val (.ref a), .val (.long q3), .second] [(.ref a), (.long q3)])) rfl rfl (hb hby d8_2)
  refine own_via st13 ?_
  show own_G _ _ _ _ (T13.setTop (mkF m 5 #[.val (.ref a), .val (.long q3), .second] [(.long q2), (.long q3)]))
  refine own_via (fun _ k => XS.aloadN X13.here hx rfl (hb hby d8_5) rfl rfl k) ?_
  show own_G _ _ _ _ (T13.setTop (mkF m 6 #[.val (.ref a), .val (.long q3), .second] [(.ref a), (.long q2), (.long q3)]))
  obtain ⟨T14, X14, e14, st14⟩ := getF X13 hx hZ hown (host := "") (Or.inl (hw _ (List.mem_of_getElem? (i := 35) rfl))) Via.refl e13 F_a_self (g := (mkF m 6 #[.val (.ref a), .val (.long q3), .second] [(.ref a), (.long q2), (.long q3)])) rfl rfl (hb hby d8_6)
  refine own_via st14 ?_
  show own_G _ _ _ _ (T14.setTop (mkF m 9 #[.val (.ref a), .val (.long q3), .second] [(.long q1), (.long q2), (.long q3)]))
  obtain ⟨v15, T15, X15, e15, hv15, st15⟩ := own_pure (W := 0) X14 hx hZ hown (hw _ (List.mem_of_getElem? (i := 44) rfl)) (hw _ (List.mem_of_getElem? (i := 45) rfl)) (hw _ (List.mem_of_getElem? (i := 46) rfl)) (hw _ (List.mem_of_getElem? (i := 47) rfl)) (by decide) (S4_meets l) (own_tabs own_T4 hw (by decide +kernel)) (by decide +kernel) rfl rfl e14 (g := (mkF m 9 #[.val (.ref a), .val (.long q3), .second] [(.long q1), (.long q2), (.long q3)])) rfl (by rw [hml]; rfl) (argsL := [(.long q3), (.long q2), (.long q1)]) (rest := []) (lenOf pd_1 rfl) rfl (by show 2 * 0 + _ ≤ _; exact Nat.le_of_eq rfl) (hb hby d8_9) ⟨rfl, rfl, rfl, trivial⟩ (fun U o U' hh => own_says_bool (by decide) (own_Top_tb rfl rfl rfl) hh) (by decide) (by decide) (by decide) (by decide)
  obtain ⟨rfl⟩ := hv15
  refine own_via st15 ?_
  show own_G _ _ _ _ (T15.setTop (mkF m 12 #[.val (.ref a), .val (.long q3), .second] [(.int (if (¬ ¬ (((q3 - q2).toInt < 0) ∨ (0 < (q3 - q2).toInt))) ∧ ((¬ (((q1 - q2).toInt < 0) ∨ (0 < (q1 - q2).toInt))) ∨ (((q3 - q2) ^^^ (-9223372036854775808)).toInt < ((q1 - q2) ^^^ (-9223372036854775808)).toInt)) then (1 : Int32) else 0))]))
  by_cases hP : (¬ ¬ (((q3 - q2).toInt < 0) ∨ (0 < (q3 - q2).toInt))) ∧ ((¬ (((q1 - q2).toInt < 0) ∨ (0 < (q1 - q2).toInt))) ∨ (((q3 - q2) ^^^ (-9223372036854775808)).toInt < ((q1 - q2) ^^^ (-9223372036854775808)).toInt))
  · refine own_via (fun _ k => XS.ifNo X15.here hx rfl (hb hby d8_12) rfl ((if0 _ _).trans (feq (by rw [if_pos hP]; decide)).1) k) ?_
    show own_G _ _ _ _ (T15.setTop (mkF m 15 #[.val (.ref a), .val (.long q3), .second] []))
    refine own_via (fun _ k => XS.aloadN X15.here hx rfl (hb hby d8_15) rfl rfl k) ?_
    show own_G _ _ _ _ (T15.setTop (mkF m 16 #[.val (.ref a), .val (.long q3), .second] [(.ref a)]))
    refine own_via (fun _ k => XS.lloadN X15.here hx rfl (hb hby d8_16) rfl k) ?_
    show own_G _ _ _ _ (T15.setTop (mkF m 17 #[.val (.ref a), .val (.long q3), .second] [(.long q3), (.ref a)]))
    obtain ⟨T16, h16, X16, e16, W16, st16⟩ := putF X15 hx hZ hown (host := "") (Or.inl (hw _ (List.mem_of_getElem? (i := 37) rfl))) Via.refl e15 F_a_copiesFrom E_a (Or.inl (hw _ (List.mem_of_getElem? (i := 38) rfl))) (hw _ (List.mem_of_getElem? (i := 1) rfl)) (ty := .long) (by decide) rfl rfl (g := (mkF m 17 #[.val (.ref a), .val (.long q3), .second] [(.long q3), (.ref a)])) rfl rfl (hb hby d8_17)
    have F_a_copiesFrom := F_a_copiesFrom.same W16
    have F_a_self := F_a_self.other W16 (Or.inr (slot_ne (Or.inr (hw _ (List.mem_of_getElem? (i := 36) rfl))) (Or.inl (hw _ (List.mem_of_getElem? (i := 38) rfl))) (by decide) (t := .long) (t' := .long) (by decide) (by decide)))
    have E_a := E_a.wr W16
    have Z0 := Nat.le_trans Z0 (Keep.of_wr W16).1
    have K := K.wr W16 (Or.inl (by simp))
    have N16 := Fr.snoc X16 N0 g_a
    refine own_via st16 ?_
    show own_G _ _ _ _ (T16.setTop (mkF m 20 #[.val (.ref a), .val (.long q3), .second] []))
    obtain ⟨fs, hr, hrun, hended, hW, hsame⟩ := X16.leave (v := none) (fun _ => rfl)
    refine ⟨_, _, ?_, hrun, hended, _, _, rfl, ?_, ⟨_, rfl⟩, hW, hsame.mono (by decide) (by decide)⟩
    · exact X16.returnOut hx Bd.returns (hb hby d8_20) hr
    · show Q8 Z a q3 q1 q2 h0 n0 _ T16.heap _
      rw [e16]
      exact ⟨rfl, N16, K, E_a, by rw [if_pos hP]; exact F_a_copiesFrom⟩
  · refine own_via (fun _ k => XS.ifYes X15.here hx rfl (pc0 := 12) (pc' := 20) rfl (hb hby d8_12) rfl ((if0 _ _).trans (teq (by rw [if_neg hP])).1) (by decide) (by decide) k) ?_
    show own_G _ _ _ _ (T15.setTop (mkF m 20 #[.val (.ref a), .val (.long q3), .second] []))
    obtain ⟨fs, hr, hrun, hended, hW, hsame⟩ := X15.leave (v := none) (fun _ => rfl)
    refine ⟨_, _, ?_, hrun, hended, _, _, rfl, ?_, ⟨_, rfl⟩, hW, hsame.mono (by decide) (by decide)⟩
    · exact X15.returnOut hx Bd.returns (hb hby d8_20) hr
    · show Q8 Z a q3 q1 q2 h0 n0 _ T15.heap _
      rw [e15]
      exact ⟨rfl, N0, K, E_a, by rw [if_neg hP]; exact F_a_copiesFrom⟩
theorem d11_0 : decode prog_2_method_5_code 0 = .ok (.aload_n 0, 1) := by decide +kernel
theorem d11_1 : decode prog_2_method_5_code 1 = .ok (.getfield 20, 3) := by decide +kernel
theorem d11_4 : decode prog_2_method_5_code 4 = .ok (.lreturn, 1) := by decide +kernel
theorem pn_11 : plainName "com/example/triplemesh/triplemesh/Holdings" = true := by first | (simp [plainName, overriddenIn]; done) | decide +kernel
theorem ef_11 (m : MethodId) (a : Addr) : entryFrame m #[(.ref a)] 1 = (mkF m 0 #[.val (.ref a)] []) := by first | (simp [entryFrame, mkF, argsToLocals, Value.category]; done) | rfl
def Q11 (Z : State) (a : Addr) (q1 : Int64) (h0 : Heap) (n0 : Nat) (v : Option Value) (h : Heap) (L : List Loc) : Prop := v = some (.long q1) ∧ Fr n0 L ∧ h = h0
set_option maxRecDepth 65536 in
set_option maxHeartbeats 40000000 in
theorem rm11 (l : Launch) (Z : State) (a0 : Array Value) (hw : ∀ d ∈ tables_1, d.before a0 Z = true) (ws : List Jvm.Cond) (a : Addr) (q1 : Int64) (h0 : Heap) (n0 : Nat) (Z0 : n0 ≤ h0.size) (F_a_copiesFrom : Fld Z h0 a "com/example/triplemesh/triplemesh/Holdings" "copiesFrom" "J" (.long q1)) :
    MetFree l (⟨"com/example/triplemesh/triplemesh/Holdings", "copiesFrom", "()J"⟩ : MethodName) (head1 (Jvm.Cond.code (⟨"com/example/triplemesh/triplemesh/Holdings", "copiesFrom", "()J"⟩ : MethodName) prog_2_method_5_code 1 (some .long) :: ws) ({ frames := 0, cells := 0, slots := 0, locals := 0 } : Room)) (fun as' U => as' = #[(.ref a)] ∧ Z.Warmed39 U.vm ∧ U.heap = h0) (fun _ _ _ _ _ => True) (fun _ U o U' => ∃ v L, o = .returned v ∧ Q11 Z a q1 h0 n0 v U'.heap L ∧ FrameEnd U o U' L ({ frames := 0, cells := 0, slots := 0, locals := 0 } : Room).cells ({ frames := 0, cells := 0, slots := 0, locals := 0 } : Room).slots) := by
  refine MetFree.of_bodySF (plainFor_of_name pn_11) hisR ?_
  intro p e s m args below meth c s₁ Bd hml0 hP hK
  obtain ⟨rfl, hZ, hh⟩ := hP
  have hx := Bd.exec
  have hby := Bd.bytes
  have hml : c.maxLocals = 1 := hml0
  have hown : s.vm.findClass "com/example/triplemesh/triplemesh/Holdings" = some m.cls := findClass_of_methodNamed Bd.named
  have hnm := (name_of_methodNamed Bd.named Bd.method).1
  have X0 : Stand p l e ({ frames := 0, cells := 0, slots := 0, locals := 0 } : Room) s m #[(.ref a)] below meth c s₁ [] 0 0 := Stand.of_body Bd
  have e0 : s₁.heap = h0 := by rw [← hh, Bd.state]; rfl
  have N0 := Fr.nil n0
  refine own_via (fun t k => castTop (ef_11 m a) k) ?_
  show own_G _ _ _ _ (s₁.setTop (mkF m 0 #[.val (.ref a)] []))
  refine own_via (fun _ k => XS.aloadN X0.here hx rfl (hb hby d11_0) rfl rfl k) ?_
  show own_G _ _ _ _ (s₁.setTop (mkF m 1 #[.val (.ref a)] [(.ref a)]))
  obtain ⟨T17, X17, e17, st17⟩ := getF X0 hx hZ hown (host := "") (Or.inl (hw _ (List.mem_of_getElem? (i := 37) rfl))) Via.refl e0 F_a_copiesFrom (g := (mkF m 1 #[.val (.ref a)] [(.ref a)])) rfl rfl (hb hby d11_1)
  refine own_via st17 ?_
  show own_G _ _ _ _ (T17.setTop (mkF m 4 #[.val (.ref a)] [(.long q1)]))
  obtain ⟨fs, hr, hrun, hended, hW, hsame⟩ := X17.leave (v := some (.long q1)) (fun h => by rw [Bd.returns] at h; cases h)
  refine ⟨_, _, ?_, hrun, hended, _, _, rfl, ?_, ⟨_, rfl⟩, hW, hsame.mono (by decide) (by decide)⟩
  · jvm_step X17.here [X17.here.top, hx, (hb hby d11_4), X17.method', Bd.returns, narrow]
    first | (intro acts; rw [hr _ acts rfl rfl rfl]) | rw [hr _ _ rfl rfl rfl]
    exact Steps.refl _
  · show Q11 Z a q1 h0 n0 _ T17.heap _
    rw [e17]
    exact ⟨rfl, N0, rfl⟩
theorem d12_0 : decode method_2_code 0 = .ok (.lload_n 2, 1) := by decide +kernel
theorem d12_1 : decode method_2_code 1 = .ok (.lload_n 0, 1) := by decide +kernel
theorem d12_2 : decode method_2_code 2 = .ok (.lcmp, 1) := by decide +kernel
theorem d12_3 : decode method_2_code 3 = .ok (.ifCond .ne 6, 3) := by decide +kernel
theorem d12_6 : decode method_2_code 6 = .ok (.lload 4, 2) := by decide +kernel
theorem d12_8 : decode method_2_code 8 = .ok (.lreturn, 1) := by decide +kernel
theorem d12_9 : decode method_2_code 9 = .ok (.lload 4, 2) := by decide +kernel
theorem d12_11 : decode method_2_code 11 = .ok (.lload_n 2, 1) := by decide +kernel
theorem d12_12 : decode method_2_code 12 = .ok (.lsub, 1) := by decide +kernel
theorem d12_13 : decode method_2_code 13 = .ok (.lstore 6, 2) := by decide +kernel
theorem d12_15 : decode method_2_code 15 = .ok (.lload_n 0, 1) := by decide +kernel
theorem d12_16 : decode method_2_code 16 = .ok (.lload_n 2, 1) := by decide +kernel
theorem d12_17 : decode method_2_code 17 = .ok (.lsub, 1) := by decide +kernel
theorem d12_18 : decode method_2_code 18 = .ok (.lstore 8, 2) := by decide +kernel
theorem d12_20 : decode method_2_code 20 = .ok (.lload 6, 2) := by decide +kernel
theorem d12_22 : decode method_2_code 22 = .ok (.lconst 0, 1) := by decide +kernel
theorem d12_23 : decode method_2_code 23 = .ok (.lcmp, 1) := by decide +kernel
theorem d12_24 : decode method_2_code 24 = .ok (.ifCond .eq 22, 3) := by decide +kernel
theorem d12_27 : decode method_2_code 27 = .ok (.lload 6, 2) := by decide +kernel
theorem d12_29 : decode method_2_code 29 = .ok (.ldc2_w 9, 3) := by decide +kernel
theorem d12_32 : decode method_2_code 32 = .ok (.lxor, 1) := by decide +kernel
theorem d12_33 : decode method_2_code 33 = .ok (.lload 8, 2) := by decide +kernel
theorem d12_35 : decode method_2_code 35 = .ok (.ldc2_w 9, 3) := by decide +kernel
theorem d12_38 : decode method_2_code 38 = .ok (.lxor, 1) := by decide +kernel
theorem d12_39 : decode method_2_code 39 = .ok (.lcmp, 1) := by decide +kernel
theorem d12_40 : decode method_2_code 40 = .ok (.ifCond .ge 6, 3) := by decide +kernel
theorem d12_43 : decode method_2_code 43 = .ok (.lload 4, 2) := by decide +kernel
theorem d12_45 : decode method_2_code 45 = .ok (.lreturn, 1) := by decide +kernel
theorem d12_46 : decode method_2_code 46 = .ok (.lload_n 2, 1) := by decide +kernel
theorem d12_47 : decode method_2_code 47 = .ok (.lreturn, 1) := by decide +kernel
theorem pn_12 : plainName "com/example/triplemesh/triplemesh/HoldingsKeepFromPinLaw" = true := by first | (simp [plainName, overriddenIn]; done) | decide +kernel
theorem ef_12 (m : MethodId) (q1 : Int64) (q2 : Int64) (q3 : Int64) : entryFrame m #[(.long q1), (.long q2), (.long q3)] 10 = (mkF m 0 #[.val (.long q1), .second, .val (.long q2), .second, .val (.long q3), .second, .unset, .unset, .unset, .unset] []) := by first | (simp [entryFrame, mkF, argsToLocals, Value.category]; done) | rfl
def Q12 (Z : State) (q1 : Int64) (q2 : Int64) (q3 : Int64) (h0 : Heap) (n0 : Nat) (v : Option Value) (h : Heap) (L : List Loc) : Prop := v = some (.long (if (q2 = q1 ∨ (¬ (q3 - q2) = (0 : Int64) ∧ ((q3 - q2) ^^^ (-9223372036854775808 : Int64)) < ((q1 - q2) ^^^ (-9223372036854775808 : Int64)))) then q3 else q2)) ∧ Fr n0 L ∧ h = h0
set_option maxRecDepth 65536 in
set_option maxHeartbeats 40000000 in
theorem rm12 (l : Launch) (Z : State) (a0 : Array Value) (hw : ∀ d ∈ tables_1, d.before a0 Z = true) (ws : List Jvm.Cond) (q1 : Int64) (q2 : Int64) (q3 : Int64) (h0 : Heap) (n0 : Nat) (Z0 : n0 ≤ h0.size) :
    MetFree l (⟨"com/example/triplemesh/triplemesh/HoldingsKeepFromPinLaw", "expected", "(JJJ)J"⟩ : MethodName) (head1 (Jvm.Cond.code (⟨"com/example/triplemesh/triplemesh/HoldingsKeepFromPinLaw", "expected", "(JJJ)J"⟩ : MethodName) method_2_code 10 (some .long) :: ws) ({ frames := 0, cells := 0, slots := 0, locals := 0 } : Room)) (fun as' U => as' = #[(.long q1), (.long q2), (.long q3)] ∧ Z.Warmed39 U.vm ∧ U.heap = h0) (fun _ _ _ _ _ => True) (fun _ U o U' => ∃ v L, o = .returned v ∧ Q12 Z q1 q2 q3 h0 n0 v U'.heap L ∧ FrameEnd U o U' L ({ frames := 0, cells := 0, slots := 0, locals := 0 } : Room).cells ({ frames := 0, cells := 0, slots := 0, locals := 0 } : Room).slots) := by
  refine MetFree.of_bodySF (plainFor_of_name pn_12) hisR ?_
  intro p e s m args below meth c s₁ Bd hml0 hP hK
  obtain ⟨rfl, hZ, hh⟩ := hP
  have hx := Bd.exec
  have hby := Bd.bytes
  have hml : c.maxLocals = 10 := hml0
  have hown : s.vm.findClass "com/example/triplemesh/triplemesh/HoldingsKeepFromPinLaw" = some m.cls := findClass_of_methodNamed Bd.named
  have hnm := (name_of_methodNamed Bd.named Bd.method).1
  have X0 : Stand p l e ({ frames := 0, cells := 0, slots := 0, locals := 0 } : Room) s m #[(.long q1), (.long q2), (.long q3)] below meth c s₁ [] 0 0 := Stand.of_body Bd
  have e0 : s₁.heap = h0 := by rw [← hh, Bd.state]; rfl
  have N0 := Fr.nil n0
  refine own_via (fun t k => castTop (ef_12 m q1 q2 q3) k) ?_
  show own_G _ _ _ _ (s₁.setTop (mkF m 0 #[.val (.long q1), .second, .val (.long q2), .second, .val (.long q3), .second, .unset, .unset, .unset, .unset] []))
  refine own_via (fun _ k => XS.lloadN X0.here hx rfl (hb hby d12_0) rfl k) ?_
  show own_G _ _ _ _ (s₁.setTop (mkF m 1 #[.val (.long q1), .second, .val (.long q2), .second, .val (.long q3), .second, .unset, .unset, .unset, .unset] [(.long q2)]))
  refine own_via (fun _ k => XS.lloadN X0.here hx rfl (hb hby d12_1) rfl k) ?_
  show own_G _ _ _ _ (s₁.setTop (mkF m 2 #[.val (.long q1), .second, .val (.long q2), .second, .val (.long q3), .second, .unset, .unset, .unset, .unset] [(.long q1), (.long q2)]))
  refine own_via (fun _ k => XS.lcmp X0.here hx rfl (hb hby d12_2) rfl k) ?_
  show own_G _ _ _ _ (s₁.setTop (mkF m 3 #[.val (.long q1), .second, .val (.long q2), .second, .val (.long q3), .second, .unset, .unset, .unset, .unset] [(.int (lcmpW q2 q1))]))
  by_cases hc1 : q2 = q1
  · refine own_via (fun _ k => XS.ifNo X0.here hx rfl (hb hby d12_3) rfl ((if0 _ _).trans (teq ((lw_eq _ _).mpr hc1)).2) k) ?_
    show own_G _ _ _ _ (s₁.setTop (mkF m 6 #[.val (.long q1), .second, .val (.long q2), .second, .val (.long q3), .second, .unset, .unset, .unset, .unset] []))
    refine own_via (fun _ k => XS.lload X0.here hx rfl (hb hby d12_6) rfl k) ?_
    show own_G _ _ _ _ (s₁.setTop (mkF m 8 #[.val (.long q1), .second, .val (.long q2), .second, .val (.long q3), .second, .unset, .unset, .unset, .unset] [(.long q3)]))
    obtain ⟨fs, hr, hrun, hended, hW, hsame⟩ := X0.leave (v := some (.long q3)) (fun h => by rw [Bd.returns] at h; cases h)
    refine ⟨_, _, ?_, hrun, hended, _, _, rfl, ?_, ⟨_, rfl⟩, hW, hsame.mono (by decide) (by decide)⟩
    · jvm_step X0.here [X0.here.top, hx, (hb hby d12_8), X0.method', Bd.returns, narrow]
      first | (intro acts; rw [hr _ acts rfl rfl rfl]) | rw [hr _ _ rfl rfl rfl]
      exact Steps.refl _
    · show Q12 Z q1 q2 q3 h0 n0 _ s₁.heap _
      rw [e0]
      exact ⟨by rw [if_pos (Or.inl hc1)], N0, rfl⟩
  · refine own_via (fun _ k => XS.ifYes X0.here hx rfl (pc0 := 3) (pc' := 9) rfl (hb hby d12_3) rfl ((if0 _ _).trans (feq (fun z => hc1 ((lw_eq _ _).mp z))).2) (by decide) (by decide) k) ?_
    show own_G _ _ _ _ (s₁.setTop (mkF m 9 #[.val (.long q1), .second, .val (.long q2), .second, .val (.long q3), .second, .unset, .unset, .unset, .unset] []))
    refine own_via (fun _ k => XS.lload X0.here hx rfl (hb hby d12_9) rfl k) ?_
    show own_G _ _ _ _ (s₁.setTop (mkF m 11 #[.val (.long q1), .second, .val (.long q2), .second, .val (.long q3), .second, .unset, .unset, .unset, .unset] [(.long q3)]))
    refine own_via (fun _ k => XS.lloadN X0.here hx rfl (hb hby d12_11) rfl k) ?_
    show own_G _ _ _ _ (s₁.setTop (mkF m 12 #[.val (.long q1), .second, .val (.long q2), .second, .val (.long q3), .second, .unset, .unset, .unset, .unset] [(.long q2), (.long q3)]))
    refine own_via (fun _ k => XS.lsub X0.here hx rfl (hb hby d12_12) rfl k) ?_
    show own_G _ _ _ _ (s₁.setTop (mkF m 13 #[.val (.long q1), .second, .val (.long q2), .second, .val (.long q3), .second, .unset, .unset, .unset, .unset] [(.long (q3 - q2))]))
    refine own_via (fun _ k => XS.lstore X0.here hx rfl (hb hby d12_13) rfl (l' := #[.val (.long q1), .second, .val (.long q2), .second, .val (.long q3), .second, .val (.long (q3 - q2)), .second, .unset, .unset]) rfl k) ?_
    show own_G _ _ _ _ (s₁.setTop (mkF m 15 #[.val (.long q1), .second, .val (.long q2), .second, .val (.long q3), .second, .val (.long (q3 - q2)), .second, .unset, .unset] []))
    refine own_via (fun _ k => XS.lloadN X0.here hx rfl (hb hby d12_15) rfl k) ?_
    show own_G _ _ _ _ (s₁.setTop (mkF m 16 #[.val (.long q1), .second, .val (.long q2), .second, .val (.long q3), .second, .val (.long (q3 - q2)), .second, .unset, .unset] [(.long q1)]))
    refine own_via (fun _ k => XS.lloadN X0.here hx rfl (hb hby d12_16) rfl k) ?_
    show own_G _ _ _ _ (s₁.setTop (mkF m 17 #[.val (.long q1), .second, .val (.long q2), .second, .val (.long q3), .second, .val (.long (q3 - q2)), .second, .unset, .unset] [(.long q2), (.long q1)]))
    refine own_via (fun _ k => XS.lsub X0.here hx rfl (hb hby d12_17) rfl k) ?_
    show own_G _ _ _ _ (s₁.setTop (mkF m 18 #[.val (.long q1), .second, .val (.long q2), .second, .val (.long q3), .second, .val (.long (q3 - q2)), .second, .unset, .unset] [(.long (q1 - q2))]))
    refine own_via (fun _ k => XS.lstore X0.here hx rfl (hb hby d12_18) rfl (l' := #[.val (.long q1), .second, .val (.long q2), .second, .val (.long q3), .second, .val (.long (q3 - q2)), .second, .val (.long (q1 - q2)), .second]) rfl k) ?_
    show own_G _ _ _ _ (s₁.setTop (mkF m 20 #[.val (.long q1), .second, .val (.long q2), .second, .val (.long q3), .second, .val (.long (q3 - q2)), .second, .val (.long (q1 - q2)), .second] []))
    refine own_via (fun _ k => XS.lload X0.here hx rfl (hb hby d12_20) rfl k) ?_
    show own_G _ _ _ _ (s₁.setTop (mkF m 22 #[.val (.long q1), .second, .val (.long q2), .second, .val (.long q3), .second, .val (.long (q3 - q2)), .second, .val (.long (q1 - q2)), .second] [(.long (q3 - q2))]))
    refine own_via (fun _ k => XS.lconst X0.here hx rfl (hb hby d12_22) k) ?_
    show own_G _ _ _ _ (s₁.setTop (mkF m 23 #[.val (.long q1), .second, .val (.long q2), .second, .val (.long q3), .second, .val (.long (q3 - q2)), .second, .val (.long (q1 - q2)), .second] [(.long (0 : Int64)), (.long (q3 - q2))]))
    refine own_via (fun _ k => XS.lcmp X0.here hx rfl (hb hby d12_23) rfl k) ?_
    show own_G _ _ _ _ (s₁.setTop (mkF m 24 #[.val (.long q1), .second, .val (.long q2), .second, .val (.long q3), .second, .val (.long (q3 - q2)), .second, .val (.long (q1 - q2)), .second] [(.int (lcmpW (q3 - q2) (0 : Int64)))]))
    by_cases hc2 : (q3 - q2) = (0 : Int64)
    · refine own_via (fun _ k => XS.ifYes X0.here hx rfl (pc0 := 24) (pc' := 46) rfl (hb hby d12_24) rfl ((if0 _ _).trans (teq ((lw_eq _ _).mpr hc2)).1) (by decide) (by decide) k) ?_
      show own_G _ _ _ _ (s₁.setTop (mkF m 46 #[.val (.long q1), .second, .val (.long q2), .second, .val (.long q3), .second, .val (.long (q3 - q2)), .second, .val (.long (q1 - q2)), .second] []))
      refine own_via (fun _ k => XS.lloadN X0.here hx rfl (hb hby d12_46) rfl k) ?_
      show own_G _ _ _ _ (s₁.setTop (mkF m 47 #[.val (.long q1), .second, .val (.long q2), .second, .val (.long q3), .second, .val (.long (q3 - q2)), .second, .val (.long (q1 - q2)), .second] [(.long q2)]))
      obtain ⟨fs, hr, hrun, hended, hW, hsame⟩ := X0.leave (v := some (.long q2)) (fun h => by rw [Bd.returns] at h; cases h)
      refine ⟨_, _, ?_, hrun, hended, _, _, rfl, ?_, ⟨_, rfl⟩, hW, hsame.mono (by decide) (by decide)⟩
      · jvm_step X0.here [X0.here.top, hx, (hb hby d12_47), X0.method', Bd.returns, narrow]
        first | (intro acts; rw [hr _ acts rfl rfl rfl]) | rw [hr _ _ rfl rfl rfl]
        exact Steps.refl _
      · show Q12 Z q1 q2 q3 h0 n0 _ s₁.heap _
        rw [e0]
        exact ⟨by rw [if_neg (fun z => z.elim hc1 (fun t => t.1 hc2))], N0, rfl⟩
    · refine own_via (fun _ k => XS.ifNo X0.here hx rfl (hb hby d12_24) rfl ((if0 _ _).trans (feq (fun z => hc2 ((lw_eq _ _).mp z))).1) k) ?_
      show own_G _ _ _ _ (s₁.setTop (mkF m 27 #[.val (.long q1), .second, .val (.long q2), .second, .val (.long q3), .second, .val (.long (q3 - q2)), .second, .val (.long (q1 - q2)), .second] []))
      refine own_via (fun _ k => XS.lload X0.here hx rfl (hb hby d12_27) rfl k) ?_
      show own_G _ _ _ _ (s₁.setTop (mkF m 29 #[.val (.long q1), .second, .val (.long q2), .second, .val (.long q3), .second, .val (.long (q3 - q2)), .second, .val (.long (q1 - q2)), .second] [(.long (q3 - q2))]))
      refine own_via (fun _ k => X0.ldc2Long hx hown (mvT hZ (hw _ (List.mem_of_getElem? (i := 68) rfl))) (g := (mkF m 29 #[.val (.long q1), .second, .val (.long q2), .second, .val (.long q3), .second, .val (.long (q3 - q2)), .second, .val (.long (q1 - q2)), .second] [(.long (q3 - q2))])) rfl (hb hby d12_29) _ k) ?_
      show own_G _ _ _ _ (s₁.setTop (mkF m 32 #[.val (.long q1), .second, .val (.long q2), .second, .val (.long q3), .second, .val (.long (q3 - q2)), .second, .val (.long (q1 - q2)), .second] [(.long (-9223372036854775808 : Int64)), (.long (q3 - q2))]))
      refine own_via (fun _ k => XS.lxor X0.here hx rfl (hb hby d12_32) rfl k) ?_
      show own_G _ _ _ _ (s₁.setTop (mkF m 33 #[.val (.long q1), .second, .val (.long q2), .second, .val (.long q3), .second, .val (.long (q3 - q2)), .second, .val (.long (q1 - q2)), .second] [(.long ((q3 - q2) ^^^ (-9223372036854775808 : Int64)))]))
      refine own_via (fun _ k => XS.lload X0.here hx rfl (hb hby d12_33) rfl k) ?_
      show own_G _ _ _ _ (s₁.setTop (mkF m 35 #[.val (.long q1), .second, .val (.long q2), .second, .val (.long q3), .second, .val (.long (q3 - q2)), .second, .val (.long (q1 - q2)), .second] [(.long (q1 - q2)), (.long ((q3 - q2) ^^^ (-9223372036854775808 : Int64)))]))
      refine own_via (fun _ k => X0.ldc2Long hx hown (mvT hZ (hw _ (List.mem_of_getElem? (i := 68) rfl))) (g := (mkF m 35 #[.val (.long q1), .second, .val (.long q2), .second, .val (.long q3), .second, .val (.long (q3 - q2)), .second, .val (.long (q1 - q2)), .second] [(.long (q1 - q2)), (.long ((q3 - q2) ^^^ (-9223372036854775808 : Int64)))])) rfl (hb hby d12_35) _ k) ?_
      show own_G _ _ _ _ (s₁.setTop (mkF m 38 #[.val (.long q1), .second, .val (.long q2), .second, .val (.long q3), .second, .val (.long (q3 - q2)), .second, .val (.long (q1 - q2)), .second] [(.long (-9223372036854775808 : Int64)), (.long (q1 - q2)), (.long ((q3 - q2) ^^^ (-9223372036854775808 : Int64)))]))
      refine own_via (fun _ k => XS.lxor X0.here hx rfl (hb hby d12_38) rfl k) ?_
      show own_G _ _ _ _ (s₁.setTop (mkF m 39 #[.val (.long q1), .second, .val (.long q2), .second, .val (.long q3), .second, .val (.long (q3 - q2)), .second, .val (.long (q1 - q2)), .second] [(.long ((q1 - q2) ^^^ (-9223372036854775808 : Int64))), (.long ((q3 - q2) ^^^ (-9223372036854775808 : Int64)))]))
      refine own_via (fun _ k => XS.lcmp X0.here hx rfl (hb hby d12_39) rfl k) ?_
      show own_G _ _ _ _ (s₁.setTop (mkF m 40 #[.val (.long q1), .second, .val (.long q2), .second, .val (.long q3), .second, .val (.long (q3 - q2)), .second, .val (.long (q1 - q2)), .second] [(.int (lcmpW ((q3 - q2) ^^^ (-9223372036854775808 : Int64)) ((q1 - q2) ^^^ (-9223372036854775808 : Int64))))]))
      by_cases hc3 : ((q3 - q2) ^^^ (-9223372036854775808 : Int64)) < ((q1 - q2) ^^^ (-9223372036854775808 : Int64))
      · refine own_via (fun _ k => XS.ifNo X0.here hx rfl (hb hby d12_40) rfl ((if0 _ _).trans (tlt ((lw_lt _ _).mpr hc3)).2.1) k) ?_
        show own_G _ _ _ _ (s₁.setTop (mkF m 43 #[.val (.long q1), .second, .val (.long q2), .second, .val (.long q3), .second, .val (.long (q3 - q2)), .second, .val (.long (q1 - q2)), .second] []))
        refine own_via (fun _ k => XS.lload X0.here hx rfl (hb hby d12_43) rfl k) ?_
        show own_G _ _ _ _ (s₁.setTop (mkF m 45 #[.val (.long q1), .second, .val (.long q2), .second, .val (.long q3), .second, .val (.long (q3 - q2)), .second, .val (.long (q1 - q2)), .second] [(.long q3)]))
        obtain ⟨fs, hr, hrun, hended, hW, hsame⟩ := X0.leave (v := some (.long q3)) (fun h => by rw [Bd.returns] at h; cases h)
        refine ⟨_, _, ?_, hrun, hended, _, _, rfl, ?_, ⟨_, rfl⟩, hW, hsame.mono (by decide) (by decide)⟩
        · jvm_step X0.here [X0.here.top, hx, (hb hby d12_45), X0.method', Bd.returns, narrow]
          first | (intro acts; rw [hr _ acts rfl rfl rfl]) | rw [hr _ _ rfl rfl rfl]
          exact Steps.refl _
        · show Q12 Z q1 q2 q3 h0 n0 _ s₁.heap _
          rw [e0]
          exact ⟨by rw [if_pos (Or.inr ⟨hc2, hc3⟩)], N0, rfl⟩
      · refine own_via (fun _ k => XS.ifYes X0.here hx rfl (pc0 := 40) (pc' := 46) rfl (hb hby d12_40) rfl ((if0 _ _).trans (flt (fun z => hc3 ((lw_lt _ _).mp z))).2.1) (by decide) (by decide) k) ?_
        show own_G _ _ _ _ (s₁.setTop (mkF m 46 #[.val (.long q1), .second, .val (.long q2), .second, .val (.long q3), .second, .val (.long (q3 - q2)), .second, .val (.long (q1 - q2)), .second] []))
        refine own_via (fun _ k => XS.lloadN X0.here hx rfl (hb hby d12_46) rfl k) ?_
        show own_G _ _ _ _ (s₁.setTop (mkF m 47 #[.val (.long q1), .second, .val (.long q2), .second, .val (.long q3), .second, .val (.long (q3 - q2)), .second, .val (.long (q1 - q2)), .second] [(.long q2)]))
        obtain ⟨fs, hr, hrun, hended, hW, hsame⟩ := X0.leave (v := some (.long q2)) (fun h => by rw [Bd.returns] at h; cases h)
        refine ⟨_, _, ?_, hrun, hended, _, _, rfl, ?_, ⟨_, rfl⟩, hW, hsame.mono (by decide) (by decide)⟩
        · jvm_step X0.here [X0.here.top, hx, (hb hby d12_47), X0.method', Bd.returns, narrow]
          first | (intro acts; rw [hr _ acts rfl rfl rfl]) | rw [hr _ _ rfl rfl rfl]
          exact Steps.refl _
        · show Q12 Z q1 q2 q3 h0 n0 _ s₁.heap _
          rw [e0]
          exact ⟨by rw [if_neg (fun z => z.elim hc1 (fun t => hc3 t.2))], N0, rfl⟩
theorem pn_0 : plainName "com/example/triplemesh/triplemesh/HoldingsKeepFromPinLaw" = true := by first | (simp [plainName, overriddenIn]; done) | decide +kernel
theorem ef_0 (m : MethodId) (j1 : Int64) (j2 : Int64) (j3 : Int64) (i1 : Int32) : entryFrame m #[(.long j1), (.long j2), (.long j3), (.int i1)] maxLocals = (mkF m 0 #[.val (.long j1), .second, .val (.long j2), .second, .val (.long j3), .second, .val (.int i1), .unset, .unset, .unset, .unset, .unset, .unset, .unset, .unset] []) := by first | (simp [entryFrame, mkF, argsToLocals, Value.category, maxLocals]; done) | rfl
set_option maxRecDepth 65536 in
set_option maxHeartbeats 40000000 in
theorem rm0 (l : Launch) (Z : State) (a0 : Array Value) (hw : ∀ d ∈ tables_1, d.before a0 Z = true) (ws : List Jvm.Cond) (j1 : Int64) (j2 : Int64) (j3 : Int64) (i1 : Int32) (h0 : Heap) (n0 : Nat) (Z0 : n0 ≤ h0.size) (o1 : Addr) (S_d : Sta Z h0 "java/util/ArrayList" "DEFAULTCAPACITY_EMPTY_ELEMENTDATA" "[Ljava/lang/Object;" (.ref o1)) :
    MetFree l x (head1 (Jvm.Cond.code x code maxLocals ret :: ws) room_1) (fun as' U => as' = #[(.long j1), (.long j2), (.long j3), (.int i1)] ∧ Z.Warmed39 U.vm ∧ U.heap = h0) (fun _ _ _ _ _ => True) (fun _ U o U' => ∃ v L, o = .returned v ∧ (v = some (.int 1) ∧ Fr n0 L) ∧ FrameEnd U o U' L 2 6) := by
  refine MetFree.of_bodySF (plainFor_of_name pn_0) hisR ?_
  intro p e s m args below meth c s₁ Bd hml0 hP hK
  obtain ⟨rfl, hZ, hh⟩ := hP
  have hx := Bd.exec
  have hby := Bd.bytes
  have hml : c.maxLocals = 15 := hml0
  have hown : s.vm.findClass "com/example/triplemesh/triplemesh/HoldingsKeepFromPinLaw" = some m.cls := findClass_of_methodNamed Bd.named
  have hnm := (name_of_methodNamed Bd.named Bd.method).1
  have X0 : Stand p l e room_1 s m #[(.long j1), (.long j2), (.long j3), (.int i1)] below meth c s₁ [] 0 0 := Stand.of_body Bd
  have e0 : s₁.heap = h0 := by rw [← hh, Bd.state]; rfl
  have N0 := Fr.nil n0
  refine own_via (fun t k => castTop (ef_0 m j1 j2 j3 i1) k) ?_
  show own_G _ _ _ _ (s₁.setTop (mkF m 0 #[.val (.long j1), .second, .val (.long j2), .second, .val (.long j3), .second, .val (.int i1), .unset, .unset, .unset, .unset, .unset, .unset, .unset, .unset] []))
  refine own_via (fun _ k => XS.iload X0.here hx rfl (hb hby at_0) rfl k) ?_
  show own_G _ _ _ _ (s₁.setTop (mkF m 2 #[.val (.long j1), .second, .val (.long j2), .second, .val (.long j3), .second, .val (.int i1), .unset, .unset, .unset, .unset, .unset, .unset, .unset, .unset] [(.int i1)]))
  refine own_via (fun _ k => XS.bipush X0.here hx rfl (hb hby at_2) k) ?_
  show own_G _ _ _ _ (s₁.setTop (mkF m 4 #[.val (.long j1), .second, .val (.long j2), .second, .val (.long j3), .second, .val (.int i1), .unset, .unset, .unset, .unset, .unset, .unset, .unset, .unset] [(.int (7 : Int32)), (.int i1)]))
  refine own_via (fun _ k => XS.iand X0.here hx rfl (hb hby at_4) rfl k) ?_
  show own_G _ _ _ _ (s₁.setTop (mkF m 5 #[.val (.long j1), .second, .val (.long j2), .second, .val (.long j3), .second, .val (.int i1), .unset, .unset, .unset, .unset, .unset, .unset, .unset, .unset] [(.int (i1 &&& (7 : Int32)))]))
  refine own_via (fun _ k => XS.istore X0.here hx rfl (hb hby at_5) rfl (l' := #[.val (.long j1), .second, .val (.long j2), .second, .val (.long j3), .second, .val (.int i1), .val (.int (i1 &&& (7 : Int32))), .unset, .unset, .unset, .unset, .unset, .unset, .unset]) rfl k) ?_
  show own_G _ _ _ _ (s₁.setTop (mkF m 7 #[.val (.long j1), .second, .val (.long j2), .second, .val (.long j3), .second, .val (.int i1), .val (.int (i1 &&& (7 : Int32))), .unset, .unset, .unset, .unset, .unset, .unset, .unset] []))
  refine own_via (fun _ k => XS.lloadN X0.here hx rfl (hb hby at_7) rfl k) ?_
  show own_G _ _ _ _ (s₁.setTop (mkF m 8 #[.val (.long j1), .second, .val (.long j2), .second, .val (.long j3), .second, .val (.int i1), .val (.int (i1 &&& (7 : Int32))), .unset, .unset, .unset, .unset, .unset, .unset, .unset] [(.long j1)]))
  refine own_via (fun _ k => XS.lstore X0.here hx rfl (hb hby at_8) rfl (l' := #[.val (.long j1), .second, .val (.long j2), .second, .val (.long j3), .second, .val (.int i1), .val (.int (i1 &&& (7 : Int32))), .val (.long j1), .second, .unset, .unset, .unset, .unset, .unset]) rfl k) ?_
  show own_G _ _ _ _ (s₁.setTop (mkF m 10 #[.val (.long j1), .second, .val (.long j2), .second, .val (.long j3), .second, .val (.int i1), .val (.int (i1 &&& (7 : Int32))), .val (.long j1), .second, .unset, .unset, .unset, .unset, .unset] []))
  refine own_via (fun _ k => XS.lloadN X0.here hx rfl (hb hby at_10) rfl k) ?_
  show own_G _ _ _ _ (s₁.setTop (mkF m 11 #[.val (.long j1), .second, .val (.long j2), .second, .val (.long j3), .second, .val (.int i1), .val (.int (i1 &&& (7 : Int32))), .val (.long j1), .second, .unset, .unset, .unset, .unset, .unset] [(.long j2)]))
  refine own_via (fun _ k => XS.lstore X0.here hx rfl (hb hby at_11) rfl (l' := #[.val (.long j1), .second, .val (.long j2), .second, .val (.long j3), .second, .val (.int i1), .val (.int (i1 &&& (7 : Int32))), .val (.long j1), .second, .val (.long j2), .second, .unset, .unset, .unset]) rfl k) ?_
  show own_G _ _ _ _ (s₁.setTop (mkF m 13 #[.val (.long j1), .second, .val (.long j2), .second, .val (.long j3), .second, .val (.int i1), .val (.int (i1 &&& (7 : Int32))), .val (.long j1), .second, .val (.long j2), .second, .unset, .unset, .unset] []))
  refine own_via (fun _ k => XS.lload X0.here hx rfl (hb hby at_13) rfl k) ?_
  show own_G _ _ _ _ (s₁.setTop (mkF m 15 #[.val (.long j1), .second, .val (.long j2), .second, .val (.long j3), .second, .val (.int i1), .val (.int (i1 &&& (7 : Int32))), .val (.long j1), .second, .val (.long j2), .second, .unset, .unset, .unset] [(.long j3)]))
  refine own_via (fun _ k => XS.lstore X0.here hx rfl (hb hby at_15) rfl (l' := #[.val (.long j1), .second, .val (.long j2), .second, .val (.long j3), .second, .val (.int i1), .val (.int (i1 &&& (7 : Int32))), .val (.long j1), .second, .val (.long j2), .second, .val (.long j3), .second, .unset]) rfl k) ?_
  show own_G _ _ _ _ (s₁.setTop (mkF m 17 #[.val (.long j1), .second, .val (.long j2), .second, .val (.long j3), .second, .val (.int i1), .val (.int (i1 &&& (7 : Int32))), .val (.long j1), .second, .val (.long j2), .second, .val (.long j3), .second, .unset] []))
  refine own_via (fun _ k => XS.iload X0.here hx rfl (hb hby at_17) rfl k) ?_
  show own_G _ _ _ _ (s₁.setTop (mkF m 19 #[.val (.long j1), .second, .val (.long j2), .second, .val (.long j3), .second, .val (.int i1), .val (.int (i1 &&& (7 : Int32))), .val (.long j1), .second, .val (.long j2), .second, .val (.long j3), .second, .unset] [(.int (i1 &&& (7 : Int32)))]))
  refine own_via (fun _ k => XS.iconst X0.here hx rfl (hb hby at_19) k) ?_
  show own_G _ _ _ _ (s₁.setTop (mkF m 20 #[.val (.long j1), .second, .val (.long j2), .second, .val (.long j3), .second, .val (.int i1), .val (.int (i1 &&& (7 : Int32))), .val (.long j1), .second, .val (.long j2), .second, .val (.long j3), .second, .unset] [(.int (1 : Int32)), (.int (i1 &&& (7 : Int32)))]))
  refine own_join (fun q : Int64 × Int64 × Int64 => match q with | (s1, c1, g1) => True) (fun q : Int64 × Int64 × Int64 => s₁.setTop (match q with | (s1, c1, g1) => (mkF m 115 #[.val (.long j1), .second, .val (.long j2), .second, .val (.long j3), .second, .val (.int i1), .val (.int (i1 &&& (7 : Int32))), .val (.long s1), .second, .val (.long c1), .second, .val (.long g1), .second, .unset] []))) (fun F' kk => ?_) (fun q hq => ?_)
  · show own_G _ _ _ _ (s₁.setTop (mkF m 20 #[.val (.long j1), .second, .val (.long j2), .second, .val (.long j3), .second, .val (.int i1), .val (.int (i1 &&& (7 : Int32))), .val (.long j1), .second, .val (.long j2), .second, .val (.long j3), .second, .unset] [(.int (1 : Int32)), (.int (i1 &&& (7 : Int32)))]))
    by_cases hm1 : (i1 &&& (7 : Int32)) = (1 : Int32)
    · refine own_via (fun _ k => XS.icmpNo X0.here hx rfl (hb hby at_20) rfl (teq hm1).2 k) ?_
      show own_G _ _ _ _ (s₁.setTop (mkF m 23 #[.val (.long j1), .second, .val (.long j2), .second, .val (.long j3), .second, .val (.int i1), .val (.int (i1 &&& (7 : Int32))), .val (.long j1), .second, .val (.long j2), .second, .val (.long j3), .second, .unset] []))
      refine own_via (fun _ k => XS.lload X0.here hx rfl (hb hby at_23) rfl k) ?_
      show own_G _ _ _ _ (s₁.setTop (mkF m 25 #[.val (.long j1), .second, .val (.long j2), .second, .val (.long j3), .second, .val (.int i1), .val (.int (i1 &&& (7 : Int32))), .val (.long j1), .second, .val (.long j2), .second, .val (.long j3), .second, .unset] [(.long j1)]))
      refine own_via (fun _ k => XS.lstore X0.here hx rfl (hb hby at_25) rfl (l' := #[.val (.long j1), .second, .val (.long j2), .second, .val (.long j3), .second, .val (.int i1), .val (.int (i1 &&& (7 : Int32))), .val (.long j1), .second, .val (.long j1), .second, .val (.long j3), .second, .unset]) rfl k) ?_
      show own_G _ _ _ _ (s₁.setTop (mkF m 27 #[.val (.long j1), .second, .val (.long j2), .second, .val (.long j3), .second, .val (.int i1), .val (.int (i1 &&& (7 : Int32))), .val (.long j1), .second, .val (.long j1), .second, .val (.long j3), .second, .unset] []))
      refine own_via (fun _ k => XS.goto X0.here hx rfl (pc0 := 27) (pc' := 115) rfl (hb hby at_27) (by decide) (by decide) k) ?_
      show own_G _ _ _ _ (s₁.setTop (mkF m 115 #[.val (.long j1), .second, .val (.long j2), .second, .val (.long j3), .second, .val (.int i1), .val (.int (i1 &&& (7 : Int32))), .val (.long j1), .second, .val (.long j1), .second, .val (.long j3), .second, .unset] []))
      exact kk (j1, j1, j3) trivial
    · refine own_via (fun _ k => XS.icmpYes X0.here hx rfl (pc0 := 20) (pc' := 30) rfl (hb hby at_20) rfl (feq hm1).2 (by decide) (by decide) k) ?_
      show own_G _ _ _ _ (s₁.setTop (mkF m 30 #[.val (.long j1), .second, .val (.long j2), .second, .val (.long j3), .second, .val (.int i1), .val (.int (i1 &&& (7 : Int32))), .val (.long j1), .second, .val (.long j2), .second, .val (.long j3), .second, .unset] []))
      refine own_via (fun _ k => XS.iload X0.here hx rfl (hb hby at_30) rfl k) ?_
      show own_G _ _ _ _ (s₁.setTop (mkF m 32 #[.val (.long j1), .second, .val (.long j2), .second, .val (.long j3), .second, .val (.int i1), .val (.int (i1 &&& (7 : Int32))), .val (.long j1), .second, .val (.long j2), .second, .val (.long j3), .second, .unset] [(.int (i1 &&& (7 : Int32)))]))
      refine own_via (fun _ k => XS.iconst X0.here hx rfl (hb hby at_32) k) ?_
      show own_G _ _ _ _ (s₁.setTop (mkF m 33 #[.val (.long j1), .second, .val (.long j2), .second, .val (.long j3), .second, .val (.int i1), .val (.int (i1 &&& (7 : Int32))), .val (.long j1), .second, .val (.long j2), .second, .val (.long j3), .second, .unset] [(.int (2 : Int32)), (.int (i1 &&& (7 : Int32)))]))
      by_cases hm2 : (i1 &&& (7 : Int32)) = (2 : Int32)
      · refine own_via (fun _ k => XS.icmpNo X0.here hx rfl (hb hby at_33) rfl (teq hm2).2 k) ?_
        show own_G _ _ _ _ (s₁.setTop (mkF m 36 #[.val (.long j1), .second, .val (.long j2), .second, .val (.long j3), .second, .val (.int i1), .val (.int (i1 &&& (7 : Int32))), .val (.long j1), .second, .val (.long j2), .second, .val (.long j3), .second, .unset] []))
        refine own_via (fun _ k => XS.lload X0.here hx rfl (hb hby at_36) rfl k) ?_
        show own_G _ _ _ _ (s₁.setTop (mkF m 38 #[.val (.long j1), .second, .val (.long j2), .second, .val (.long j3), .second, .val (.int i1), .val (.int (i1 &&& (7 : Int32))), .val (.long j1), .second, .val (.long j2), .second, .val (.long j3), .second, .unset] [(.long j2)]))
        refine own_via (fun _ k => XS.lstore X0.here hx rfl (hb hby at_38) rfl (l' := #[.val (.long j1), .second, .val (.long j2), .second, .val (.long j3), .second, .val (.int i1), .val (.int (i1 &&& (7 : Int32))), .val (.long j1), .second, .val (.long j2), .second, .val (.long j2), .second, .unset]) rfl k) ?_
        show own_G _ _ _ _ (s₁.setTop (mkF m 40 #[.val (.long j1), .second, .val (.long j2), .second, .val (.long j3), .second, .val (.int i1), .val (.int (i1 &&& (7 : Int32))), .val (.long j1), .second, .val (.long j2), .second, .val (.long j2), .second, .unset] []))
        refine own_via (fun _ k => XS.goto X0.here hx rfl (pc0 := 40) (pc' := 115) rfl (hb hby at_40) (by decide) (by decide) k) ?_
        show own_G _ _ _ _ (s₁.setTop (mkF m 115 #[.val (.long j1), .second, .val (.long j2), .second, .val (.long j3), .second, .val (.int i1), .val (.int (i1 &&& (7 : Int32))), .val (.long j1), .second, .val (.long j2), .second, .val (.long j2), .second, .unset] []))
        exact kk (j1, j2, j2) trivial
      · refine own_via (fun _ k => XS.icmpYes X0.here hx rfl (pc0 := 33) (pc' := 43) rfl (hb hby at_33) rfl (feq hm2).2 (by decide) (by decide) k) ?_
        show own_G _ _ _ _ (s₁.setTop (mkF m 43 #[.val (.long j1), .second, .val (.long j2), .second, .val (.long j3), .second, .val (.int i1), .val (.int (i1 &&& (7 : Int32))), .val (.long j1), .second, .val (.long j2), .second, .val (.long j3), .second, .unset] []))
        refine own_via (fun _ k => XS.iload X0.here hx rfl (hb hby at_43) rfl k) ?_
        show own_G _ _ _ _ (s₁.setTop (mkF m 45 #[.val (.long j1), .second, .val (.long j2), .second, .val (.long j3), .second, .val (.int i1), .val (.int (i1 &&& (7 : Int32))), .val (.long j1), .second, .val (.long j2), .second, .val (.long j3), .second, .unset] [(.int (i1 &&& (7 : Int32)))]))
        refine own_via (fun _ k => XS.iconst X0.here hx rfl (hb hby at_45) k) ?_
        show own_G _ _ _ _ (s₁.setTop (mkF m 46 #[.val (.long j1), .second, .val (.long j2), .second, .val (.long j3), .second, .val (.int i1), .val (.int (i1 &&& (7 : Int32))), .val (.long j1), .second, .val (.long j2), .second, .val (.long j3), .second, .unset] [(.int (3 : Int32)), (.int (i1 &&& (7 : Int32)))]))
        by_cases hm3 : (i1 &&& (7 : Int32)) = (3 : Int32)
        · refine own_via (fun _ k => XS.icmpNo X0.here hx rfl (hb hby at_46) rfl (teq hm3).2 k) ?_
          show own_G _ _ _ _ (s₁.setTop (mkF m 49 #[.val (.long j1), .second, .val (.long j2), .second, .val (.long j3), .second, .val (.int i1), .val (.int (i1 &&& (7 : Int32))), .val (.long j1), .second, .val (.long j2), .second, .val (.long j3), .second, .unset] []))
          refine own_via (fun _ k => XS.lload X0.here hx rfl (hb hby at_49) rfl k) ?_
          show own_G _ _ _ _ (s₁.setTop (mkF m 51 #[.val (.long j1), .second, .val (.long j2), .second, .val (.long j3), .second, .val (.int i1), .val (.int (i1 &&& (7 : Int32))), .val (.long j1), .second, .val (.long j2), .second, .val (.long j3), .second, .unset] [(.long j1)]))
          refine own_via (fun _ k => XS.lstore X0.here hx rfl (hb hby at_51) rfl (l' := #[.val (.long j1), .second, .val (.long j2), .second, .val (.long j3), .second, .val (.int i1), .val (.int (i1 &&& (7 : Int32))), .val (.long j1), .second, .val (.long j2), .second, .val (.long j1), .second, .unset]) rfl k) ?_
          show own_G _ _ _ _ (s₁.setTop (mkF m 53 #[.val (.long j1), .second, .val (.long j2), .second, .val (.long j3), .second, .val (.int i1), .val (.int (i1 &&& (7 : Int32))), .val (.long j1), .second, .val (.long j2), .second, .val (.long j1), .second, .unset] []))
          refine own_via (fun _ k => XS.goto X0.here hx rfl (pc0 := 53) (pc' := 115) rfl (hb hby at_53) (by decide) (by decide) k) ?_
          show own_G _ _ _ _ (s₁.setTop (mkF m 115 #[.val (.long j1), .second, .val (.long j2), .second, .val (.long j3), .second, .val (.int i1), .val (.int (i1 &&& (7 : Int32))), .val (.long j1), .second, .val (.long j2), .second, .val (.long j1), .second, .unset] []))
          exact kk (j1, j2, j1) trivial
        · refine own_via (fun _ k => XS.icmpYes X0.here hx rfl (pc0 := 46) (pc' := 56) rfl (hb hby at_46) rfl (feq hm3).2 (by decide) (by decide) k) ?_
          show own_G _ _ _ _ (s₁.setTop (mkF m 56 #[.val (.long j1), .second, .val (.long j2), .second, .val (.long j3), .second, .val (.int i1), .val (.int (i1 &&& (7 : Int32))), .val (.long j1), .second, .val (.long j2), .second, .val (.long j3), .second, .unset] []))
          refine own_via (fun _ k => XS.iload X0.here hx rfl (hb hby at_56) rfl k) ?_
          show own_G _ _ _ _ (s₁.setTop (mkF m 58 #[.val (.long j1), .second, .val (.long j2), .second, .val (.long j3), .second, .val (.int i1), .val (.int (i1 &&& (7 : Int32))), .val (.long j1), .second, .val (.long j2), .second, .val (.long j3), .second, .unset] [(.int (i1 &&& (7 : Int32)))]))
          refine own_via (fun _ k => XS.iconst X0.here hx rfl (hb hby at_58) k) ?_
          show own_G _ _ _ _ (s₁.setTop (mkF m 59 #[.val (.long j1), .second, .val (.long j2), .second, .val (.long j3), .second, .val (.int i1), .val (.int (i1 &&& (7 : Int32))), .val (.long j1), .second, .val (.long j2), .second, .val (.long j3), .second, .unset] [(.int (4 : Int32)), (.int (i1 &&& (7 : Int32)))]))
          by_cases hm4 : (i1 &&& (7 : Int32)) = (4 : Int32)
          · refine own_via (fun _ k => XS.icmpNo X0.here hx rfl (hb hby at_59) rfl (teq hm4).2 k) ?_
            show own_G _ _ _ _ (s₁.setTop (mkF m 62 #[.val (.long j1), .second, .val (.long j2), .second, .val (.long j3), .second, .val (.int i1), .val (.int (i1 &&& (7 : Int32))), .val (.long j1), .second, .val (.long j2), .second, .val (.long j3), .second, .unset] []))
            refine own_via (fun _ k => XS.lload X0.here hx rfl (hb hby at_62) rfl k) ?_
            show own_G _ _ _ _ (s₁.setTop (mkF m 64 #[.val (.long j1), .second, .val (.long j2), .second, .val (.long j3), .second, .val (.int i1), .val (.int (i1 &&& (7 : Int32))), .val (.long j1), .second, .val (.long j2), .second, .val (.long j3), .second, .unset] [(.long j2)]))
            refine own_via (fun _ k => XS.lconst X0.here hx rfl (hb hby at_64) k) ?_
            show own_G _ _ _ _ (s₁.setTop (mkF m 65 #[.val (.long j1), .second, .val (.long j2), .second, .val (.long j3), .second, .val (.int i1), .val (.int (i1 &&& (7 : Int32))), .val (.long j1), .second, .val (.long j2), .second, .val (.long j3), .second, .unset] [(.long (1 : Int64)), (.long j2)]))
            refine own_via (fun _ k => XS.ladd X0.here hx rfl (hb hby at_65) rfl k) ?_
            show own_G _ _ _ _ (s₁.setTop (mkF m 66 #[.val (.long j1), .second, .val (.long j2), .second, .val (.long j3), .second, .val (.int i1), .val (.int (i1 &&& (7 : Int32))), .val (.long j1), .second, .val (.long j2), .second, .val (.long j3), .second, .unset] [(.long (j2 + (1 : Int64)))]))
            refine own_via (fun _ k => XS.lstore X0.here hx rfl (hb hby at_66) rfl (l' := #[.val (.long j1), .second, .val (.long j2), .second, .val (.long j3), .second, .val (.int i1), .val (.int (i1 &&& (7 : Int32))), .val (.long j1), .second, .val (.long j2), .second, .val (.long (j2 + (1 : Int64))), .second, .unset]) rfl k) ?_
            show own_G _ _ _ _ (s₁.setTop (mkF m 68 #[.val (.long j1), .second, .val (.long j2), .second, .val (.long j3), .second, .val (.int i1), .val (.int (i1 &&& (7 : Int32))), .val (.long j1), .second, .val (.long j2), .second, .val (.long (j2 + (1 : Int64))), .second, .unset] []))
            refine own_via (fun _ k => XS.goto X0.here hx rfl (pc0 := 68) (pc' := 115) rfl (hb hby at_68) (by decide) (by decide) k) ?_
            show own_G _ _ _ _ (s₁.setTop (mkF m 115 #[.val (.long j1), .second, .val (.long j2), .second, .val (.long j3), .second, .val (.int i1), .val (.int (i1 &&& (7 : Int32))), .val (.long j1), .second, .val (.long j2), .second, .val (.long (j2 + (1 : Int64))), .second, .unset] []))
            exact kk (j1, j2, (j2 + (1 : Int64))) trivial
          · refine own_via (fun _ k => XS.icmpYes X0.here hx rfl (pc0 := 59) (pc' := 71) rfl (hb hby at_59) rfl (feq hm4).2 (by decide) (by decide) k) ?_
            show own_G _ _ _ _ (s₁.setTop (mkF m 71 #[.val (.long j1), .second, .val (.long j2), .second, .val (.long j3), .second, .val (.int i1), .val (.int (i1 &&& (7 : Int32))), .val (.long j1), .second, .val (.long j2), .second, .val (.long j3), .second, .unset] []))
            refine own_via (fun _ k => XS.iload X0.here hx rfl (hb hby at_71) rfl k) ?_
            show own_G _ _ _ _ (s₁.setTop (mkF m 73 #[.val (.long j1), .second, .val (.long j2), .second, .val (.long j3), .second, .val (.int i1), .val (.int (i1 &&& (7 : Int32))), .val (.long j1), .second, .val (.long j2), .second, .val (.long j3), .second, .unset] [(.int (i1 &&& (7 : Int32)))]))
            refine own_via (fun _ k => XS.iconst X0.here hx rfl (hb hby at_73) k) ?_
            show own_G _ _ _ _ (s₁.setTop (mkF m 74 #[.val (.long j1), .second, .val (.long j2), .second, .val (.long j3), .second, .val (.int i1), .val (.int (i1 &&& (7 : Int32))), .val (.long j1), .second, .val (.long j2), .second, .val (.long j3), .second, .unset] [(.int (5 : Int32)), (.int (i1 &&& (7 : Int32)))]))
            by_cases hm5 : (i1 &&& (7 : Int32)) = (5 : Int32)
            · refine own_via (fun _ k => XS.icmpNo X0.here hx rfl (hb hby at_74) rfl (teq hm5).2 k) ?_
              show own_G _ _ _ _ (s₁.setTop (mkF m 77 #[.val (.long j1), .second, .val (.long j2), .second, .val (.long j3), .second, .val (.int i1), .val (.int (i1 &&& (7 : Int32))), .val (.long j1), .second, .val (.long j2), .second, .val (.long j3), .second, .unset] []))
              refine own_via (fun _ k => XS.lload X0.here hx rfl (hb hby at_77) rfl k) ?_
              show own_G _ _ _ _ (s₁.setTop (mkF m 79 #[.val (.long j1), .second, .val (.long j2), .second, .val (.long j3), .second, .val (.int i1), .val (.int (i1 &&& (7 : Int32))), .val (.long j1), .second, .val (.long j2), .second, .val (.long j3), .second, .unset] [(.long j1)]))
              refine own_via (fun _ k => XS.lconst X0.here hx rfl (hb hby at_79) k) ?_
              show own_G _ _ _ _ (s₁.setTop (mkF m 80 #[.val (.long j1), .second, .val (.long j2), .second, .val (.long j3), .second, .val (.int i1), .val (.int (i1 &&& (7 : Int32))), .val (.long j1), .second, .val (.long j2), .second, .val (.long j3), .second, .unset] [(.long (1 : Int64)), (.long j1)]))
              refine own_via (fun _ k => XS.lsub X0.here hx rfl (hb hby at_80) rfl k) ?_
              show own_G _ _ _ _ (s₁.setTop (mkF m 81 #[.val (.long j1), .second, .val (.long j2), .second, .val (.long j3), .second, .val (.int i1), .val (.int (i1 &&& (7 : Int32))), .val (.long j1), .second, .val (.long j2), .second, .val (.long j3), .second, .unset] [(.long (j1 - (1 : Int64)))]))
              refine own_via (fun _ k => XS.lstore X0.here hx rfl (hb hby at_81) rfl (l' := #[.val (.long j1), .second, .val (.long j2), .second, .val (.long j3), .second, .val (.int i1), .val (.int (i1 &&& (7 : Int32))), .val (.long j1), .second, .val (.long j2), .second, .val (.long (j1 - (1 : Int64))), .second, .unset]) rfl k) ?_
              show own_G _ _ _ _ (s₁.setTop (mkF m 83 #[.val (.long j1), .second, .val (.long j2), .second, .val (.long j3), .second, .val (.int i1), .val (.int (i1 &&& (7 : Int32))), .val (.long j1), .second, .val (.long j2), .second, .val (.long (j1 - (1 : Int64))), .second, .unset] []))
              refine own_via (fun _ k => XS.goto X0.here hx rfl (pc0 := 83) (pc' := 115) rfl (hb hby at_83) (by decide) (by decide) k) ?_
              show own_G _ _ _ _ (s₁.setTop (mkF m 115 #[.val (.long j1), .second, .val (.long j2), .second, .val (.long j3), .second, .val (.int i1), .val (.int (i1 &&& (7 : Int32))), .val (.long j1), .second, .val (.long j2), .second, .val (.long (j1 - (1 : Int64))), .second, .unset] []))
              exact kk (j1, j2, (j1 - (1 : Int64))) trivial
            · refine own_via (fun _ k => XS.icmpYes X0.here hx rfl (pc0 := 74) (pc' := 86) rfl (hb hby at_74) rfl (feq hm5).2 (by decide) (by decide) k) ?_
              show own_G _ _ _ _ (s₁.setTop (mkF m 86 #[.val (.long j1), .second, .val (.long j2), .second, .val (.long j3), .second, .val (.int i1), .val (.int (i1 &&& (7 : Int32))), .val (.long j1), .second, .val (.long j2), .second, .val (.long j3), .second, .unset] []))
              refine own_via (fun _ k => XS.iload X0.here hx rfl (hb hby at_86) rfl k) ?_
              show own_G _ _ _ _ (s₁.setTop (mkF m 88 #[.val (.long j1), .second, .val (.long j2), .second, .val (.long j3), .second, .val (.int i1), .val (.int (i1 &&& (7 : Int32))), .val (.long j1), .second, .val (.long j2), .second, .val (.long j3), .second, .unset] [(.int (i1 &&& (7 : Int32)))]))
              refine own_via (fun _ k => XS.bipush X0.here hx rfl (hb hby at_88) k) ?_
              show own_G _ _ _ _ (s₁.setTop (mkF m 90 #[.val (.long j1), .second, .val (.long j2), .second, .val (.long j3), .second, .val (.int i1), .val (.int (i1 &&& (7 : Int32))), .val (.long j1), .second, .val (.long j2), .second, .val (.long j3), .second, .unset] [(.int (6 : Int32)), (.int (i1 &&& (7 : Int32)))]))
              by_cases hm6 : (i1 &&& (7 : Int32)) = (6 : Int32)
              · refine own_via (fun _ k => XS.icmpNo X0.here hx rfl (hb hby at_90) rfl (teq hm6).2 k) ?_
                show own_G _ _ _ _ (s₁.setTop (mkF m 93 #[.val (.long j1), .second, .val (.long j2), .second, .val (.long j3), .second, .val (.int i1), .val (.int (i1 &&& (7 : Int32))), .val (.long j1), .second, .val (.long j2), .second, .val (.long j3), .second, .unset] []))
                refine own_via (fun _ k => XS.lload X0.here hx rfl (hb hby at_93) rfl k) ?_
                show own_G _ _ _ _ (s₁.setTop (mkF m 95 #[.val (.long j1), .second, .val (.long j2), .second, .val (.long j3), .second, .val (.int i1), .val (.int (i1 &&& (7 : Int32))), .val (.long j1), .second, .val (.long j2), .second, .val (.long j3), .second, .unset] [(.long j1)]))
                refine own_via (fun _ k => XS.lconst X0.here hx rfl (hb hby at_95) k) ?_
                show own_G _ _ _ _ (s₁.setTop (mkF m 96 #[.val (.long j1), .second, .val (.long j2), .second, .val (.long j3), .second, .val (.int i1), .val (.int (i1 &&& (7 : Int32))), .val (.long j1), .second, .val (.long j2), .second, .val (.long j3), .second, .unset] [(.long (1 : Int64)), (.long j1)]))
                refine own_via (fun _ k => XS.ladd X0.here hx rfl (hb hby at_96) rfl k) ?_
                show own_G _ _ _ _ (s₁.setTop (mkF m 97 #[.val (.long j1), .second, .val (.long j2), .second, .val (.long j3), .second, .val (.int i1), .val (.int (i1 &&& (7 : Int32))), .val (.long j1), .second, .val (.long j2), .second, .val (.long j3), .second, .unset] [(.long (j1 + (1 : Int64)))]))
                refine own_via (fun _ k => XS.lstore X0.here hx rfl (hb hby at_97) rfl (l' := #[.val (.long j1), .second, .val (.long j2), .second, .val (.long j3), .second, .val (.int i1), .val (.int (i1 &&& (7 : Int32))), .val (.long j1), .second, .val (.long (j1 + (1 : Int64))), .second, .val (.long j3), .second, .unset]) rfl k) ?_
                show own_G _ _ _ _ (s₁.setTop (mkF m 99 #[.val (.long j1), .second, .val (.long j2), .second, .val (.long j3), .second, .val (.int i1), .val (.int (i1 &&& (7 : Int32))), .val (.long j1), .second, .val (.long (j1 + (1 : Int64))), .second, .val (.long j3), .second, .unset] []))
                refine own_via (fun _ k => XS.goto X0.here hx rfl (pc0 := 99) (pc' := 115) rfl (hb hby at_99) (by decide) (by decide) k) ?_
                show own_G _ _ _ _ (s₁.setTop (mkF m 115 #[.val (.long j1), .second, .val (.long j2), .second, .val (.long j3), .second, .val (.int i1), .val (.int (i1 &&& (7 : Int32))), .val (.long j1), .second, .val (.long (j1 + (1 : Int64))), .second, .val (.long j3), .second, .unset] []))
                exact kk (j1, (j1 + (1 : Int64)), j3) trivial
              · refine own_via (fun _ k => XS.icmpYes X0.here hx rfl (pc0 := 90) (pc' := 102) rfl (hb hby at_90) rfl (feq hm6).2 (by decide) (by decide) k) ?_
                show own_G _ _ _ _ (s₁.setTop (mkF m 102 #[.val (.long j1), .second, .val (.long j2), .second, .val (.long j3), .second, .val (.int i1), .val (.int (i1 &&& (7 : Int32))), .val (.long j1), .second, .val (.long j2), .second, .val (.long j3), .second, .unset] []))
                refine own_via (fun _ k => XS.iload X0.here hx rfl (hb hby at_102) rfl k) ?_
                show own_G _ _ _ _ (s₁.setTop (mkF m 104 #[.val (.long j1), .second, .val (.long j2), .second, .val (.long j3), .second, .val (.int i1), .val (.int (i1 &&& (7 : Int32))), .val (.long j1), .second, .val (.long j2), .second, .val (.long j3), .second, .unset] [(.int (i1 &&& (7 : Int32)))]))
                refine own_via (fun _ k => XS.bipush X0.here hx rfl (hb hby at_104) k) ?_
                show own_G _ _ _ _ (s₁.setTop (mkF m 106 #[.val (.long j1), .second, .val (.long j2), .second, .val (.long j3), .second, .val (.int i1), .val (.int (i1 &&& (7 : Int32))), .val (.long j1), .second, .val (.long j2), .second, .val (.long j3), .second, .unset] [(.int (7 : Int32)), (.int (i1 &&& (7 : Int32)))]))
                by_cases hm7 : (i1 &&& (7 : Int32)) = (7 : Int32)
                · refine own_via (fun _ k => XS.icmpNo X0.here hx rfl (hb hby at_106) rfl (teq hm7).2 k) ?_
                  show own_G _ _ _ _ (s₁.setTop (mkF m 109 #[.val (.long j1), .second, .val (.long j2), .second, .val (.long j3), .second, .val (.int i1), .val (.int (i1 &&& (7 : Int32))), .val (.long j1), .second, .val (.long j2), .second, .val (.long j3), .second, .unset] []))
                  refine own_via (fun _ k => XS.lload X0.here hx rfl (hb hby at_109) rfl k) ?_
                  show own_G _ _ _ _ (s₁.setTop (mkF m 111 #[.val (.long j1), .second, .val (.long j2), .second, .val (.long j3), .second, .val (.int i1), .val (.int (i1 &&& (7 : Int32))), .val (.long j1), .second, .val (.long j2), .second, .val (.long j3), .second, .unset] [(.long j2)]))
                  refine own_via (fun _ k => XS.lconst X0.here hx rfl (hb hby at_111) k) ?_
                  show own_G _ _ _ _ (s₁.setTop (mkF m 112 #[.val (.long j1), .second, .val (.long j2), .second, .val (.long j3), .second, .val (.int i1), .val (.int (i1 &&& (7 : Int32))), .val (.long j1), .second, .val (.long j2), .second, .val (.long j3), .second, .unset] [(.long (1 : Int64)), (.long j2)]))
                  refine own_via (fun _ k => XS.lsub X0.here hx rfl (hb hby at_112) rfl k) ?_
                  show own_G _ _ _ _ (s₁.setTop (mkF m 113 #[.val (.long j1), .second, .val (.long j2), .second, .val (.long j3), .second, .val (.int i1), .val (.int (i1 &&& (7 : Int32))), .val (.long j1), .second, .val (.long j2), .second, .val (.long j3), .second, .unset] [(.long (j2 - (1 : Int64)))]))
                  refine own_via (fun _ k => XS.lstore X0.here hx rfl (hb hby at_113) rfl (l' := #[.val (.long j1), .second, .val (.long j2), .second, .val (.long j3), .second, .val (.int i1), .val (.int (i1 &&& (7 : Int32))), .val (.long j1), .second, .val (.long j2), .second, .val (.long (j2 - (1 : Int64))), .second, .unset]) rfl k) ?_
                  show own_G _ _ _ _ (s₁.setTop (mkF m 115 #[.val (.long j1), .second, .val (.long j2), .second, .val (.long j3), .second, .val (.int i1), .val (.int (i1 &&& (7 : Int32))), .val (.long j1), .second, .val (.long j2), .second, .val (.long (j2 - (1 : Int64))), .second, .unset] []))
                  exact kk (j1, j2, (j2 - (1 : Int64))) trivial
                · refine own_via (fun _ k => XS.icmpYes X0.here hx rfl (pc0 := 106) (pc' := 115) rfl (hb hby at_106) rfl (feq hm7).2 (by decide) (by decide) k) ?_
                  show own_G _ _ _ _ (s₁.setTop (mkF m 115 #[.val (.long j1), .second, .val (.long j2), .second, .val (.long j3), .second, .val (.int i1), .val (.int (i1 &&& (7 : Int32))), .val (.long j1), .second, .val (.long j2), .second, .val (.long j3), .second, .unset] []))
                  exact kk (j1, j2, j3) trivial
  · obtain ⟨s1, c1, g1⟩ := q
    show own_G _ _ _ _ (s₁.setTop (mkF m 115 #[.val (.long j1), .second, .val (.long j2), .second, .val (.long j3), .second, .val (.int i1), .val (.int (i1 &&& (7 : Int32))), .val (.long s1), .second, .val (.long c1), .second, .val (.long g1), .second, .unset] []))
    obtain ⟨T18, h18, X18, e18, E18, A18, D18, -, st18⟩ := newO X0 hx hZ hown (hw _ (List.mem_of_getElem? (i := 0) rfl)) (hw _ (List.mem_of_getElem? (i := 1) rfl)) (hw _ (List.mem_of_getElem? (i := 2) rfl)) e0 (g := (mkF m 115 #[.val (.long j1), .second, .val (.long j2), .second, .val (.long j3), .second, .val (.int i1), .val (.int (i1 &&& (7 : Int32))), .val (.long s1), .second, .val (.long c1), .second, .val (.long g1), .second, .unset] [])) rfl (hb hby at_115) (by decide) (by decide)
    obtain ⟨b, g18⟩ : ∃ z, z = h0.size := ⟨_, rfl⟩
    rw [← g18] at A18 D18 st18
    have g_b : n0 ≤ b := Nat.le_trans Z0 (Nat.le_of_eq g18.symm)
    have S_d := S_d.ext E18
    have Z0 := Nat.le_trans Z0 E18.1
    have E_b := A18
    have F_b_lost : Fld Z h18 b "com/example/triplemesh/triplemesh/Holdings" "lost" "Ljava/util/List;" .null := D18 (Or.inr (hw _ (List.mem_of_getElem? (i := 34) rfl))) (ty := (.object "java/util/List")) (by decide)
    have F_b_self : Fld Z h18 b "com/example/triplemesh/triplemesh/Holdings" "self" "J" (.long (0 : Int64)) := D18 (Or.inr (hw _ (List.mem_of_getElem? (i := 36) rfl))) (ty := .long) (by decide)
    have F_b_copiesFrom : Fld Z h18 b "com/example/triplemesh/triplemesh/Holdings" "copiesFrom" "J" (.long (0 : Int64)) := D18 (Or.inl (hw _ (List.mem_of_getElem? (i := 38) rfl))) (ty := .long) (by decide)
    refine own_via st18 ?_
    show own_G _ _ _ _ (T18.setTop (mkF m 118 #[.val (.long j1), .second, .val (.long j2), .second, .val (.long j3), .second, .val (.int i1), .val (.int (i1 &&& (7 : Int32))), .val (.long s1), .second, .val (.long c1), .second, .val (.long g1), .second, .unset] [(.ref b)]))
    refine own_via (fun _ k => XS.dup X18.here hx rfl (hb hby at_118) rfl rfl k) ?_
    show own_G _ _ _ _ (T18.setTop (mkF m 119 #[.val (.long j1), .second, .val (.long j2), .second, .val (.long j3), .second, .val (.int i1), .val (.int (i1 &&& (7 : Int32))), .val (.long s1), .second, .val (.long c1), .second, .val (.long g1), .second, .unset] [(.ref b), (.ref b)]))
    refine own_via (fun _ k => XS.lload X18.here hx rfl (hb hby at_119) rfl k) ?_
    show own_G _ _ _ _ (T18.setTop (mkF m 121 #[.val (.long j1), .second, .val (.long j2), .second, .val (.long j3), .second, .val (.int i1), .val (.int (i1 &&& (7 : Int32))), .val (.long s1), .second, .val (.long c1), .second, .val (.long g1), .second, .unset] [(.long s1), (.ref b), (.ref b)]))
    refine own_via (fun _ k => XS.lload X18.here hx rfl (hb hby at_121) rfl k) ?_
    show own_G _ _ _ _ (T18.setTop (mkF m 123 #[.val (.long j1), .second, .val (.long j2), .second, .val (.long j3), .second, .val (.int i1), .val (.int (i1 &&& (7 : Int32))), .val (.long s1), .second, .val (.long c1), .second, .val (.long g1), .second, .unset] [(.long c1), (.long s1), (.ref b), (.ref b)]))
    obtain ⟨_, _, ⟨T19, L19, k19, n19⟩, -, X19, ⟨Lc19, hQ19, l19, y19, z19⟩, st19⟩ := X18.specialBack hx (y := (⟨"com/example/triplemesh/triplemesh/Holdings", "<init>", "(JJ)V"⟩ : MethodName)) rfl hown (mvT hZ (hw _ (List.mem_of_getElem? (i := 3) rfl))) (mvT hZ (hw _ (List.mem_of_getElem? (i := 4) rfl))) (mvT hZ (hw _ (List.mem_of_getElem? (i := 5) rfl))) (by decide) (backOf (W := 1) (rm1 l Z a0 hw [] b s1 c1 o1 h18 n0 Z0 E_b F_b_lost F_b_self F_b_copiesFrom S_d g_b) hZ (hw _ (List.mem_of_getElem? (i := 5) rfl)) (hw _ (List.mem_of_getElem? (i := 2) rfl)) (by decide) (by decide)) (g := (mkF m 123 #[.val (.long j1), .second, .val (.long j2), .second, .val (.long j3), .second, .val (.int i1), .val (.int (i1 &&& (7 : Int32))), .val (.long s1), .second, .val (.long c1), .second, .val (.long g1), .second, .unset] [(.long c1), (.long s1), (.ref b), (.ref b)])) rfl (by rw [hml]; rfl) (Steps.refl _) (a := b) (argsL := [(.long s1), (.long c1)]) (rest := [(.ref b)]) (lenOf pd_2 rfl) rfl (by show 2 * 0 + _ ≤ _; exact Nat.le_of_eq rfl) (hb hby at_123) (fun _ _ => ⟨rfl, e18, Nat.le_of_ble_eq_true rfl, Nat.le_of_ble_eq_true rfl⟩)
    dsimp only [Pt.U, Pt.locs, Pt.cells, Pt.slots] at X19 l19 y19 z19 st19 hQ19
    subst l19 y19 z19
    obtain ⟨rfl, N19q, K19, -, F_b_self, F_b_copiesFrom⟩ := hQ19
    have N19 := Fr.app N0 N19q
    have E_b := E_b.keep K19
    have Z0 := Nat.le_trans Z0 K19.1
    refine own_via (fun _ kt => st19.trans kt) ?_
    show own_G _ _ _ _ (T19.setTop (mkF m 126 #[.val (.long j1), .second, .val (.long j2), .second, .val (.long j3), .second, .val (.int i1), .val (.int (i1 &&& (7 : Int32))), .val (.long s1), .second, .val (.long c1), .second, .val (.long g1), .second, .unset] [(.ref b)]))
    refine own_via (fun _ k => XS.astore X19.here hx rfl (hb hby at_126) rfl rfl (l' := #[.val (.long j1), .second, .val (.long j2), .second, .val (.long j3), .second, .val (.int i1), .val (.int (i1 &&& (7 : Int32))), .val (.long s1), .second, .val (.long c1), .second, .val (.long g1), .second, .val (.ref b)]) rfl k) ?_
    show own_G _ _ _ _ (T19.setTop (mkF m 128 #[.val (.long j1), .second, .val (.long j2), .second, .val (.long j3), .second, .val (.int i1), .val (.int (i1 &&& (7 : Int32))), .val (.long s1), .second, .val (.long c1), .second, .val (.long g1), .second, .val (.ref b)] []))
    refine own_via (fun _ k => XS.aload X19.here hx rfl (hb hby at_128) rfl rfl k) ?_
    show own_G _ _ _ _ (T19.setTop (mkF m 130 #[.val (.long j1), .second, .val (.long j2), .second, .val (.long j3), .second, .val (.int i1), .val (.int (i1 &&& (7 : Int32))), .val (.long s1), .second, .val (.long c1), .second, .val (.long g1), .second, .val (.ref b)] [(.ref b)]))
    refine own_via (fun _ k => XS.lload X19.here hx rfl (hb hby at_130) rfl k) ?_
    show own_G _ _ _ _ (T19.setTop (mkF m 132 #[.val (.long j1), .second, .val (.long j2), .second, .val (.long j3), .second, .val (.int i1), .val (.int (i1 &&& (7 : Int32))), .val (.long s1), .second, .val (.long c1), .second, .val (.long g1), .second, .val (.ref b)] [(.long g1), (.ref b)]))
    obtain ⟨cq20, kq20, q20a, q20b, q20c⟩ := isOf hZ rfl E_b
    obtain ⟨_, _, ⟨T20, L20, k20, n20⟩, -, X20, ⟨Lc20, hQ20, l20, y20, z20⟩, st20⟩ := X19.virtualBack hx (y := (⟨"com/example/triplemesh/triplemesh/Holdings", "keepFrom", "(J)V"⟩ : MethodName)) (z := (⟨"com/example/triplemesh/triplemesh/Holdings", "keepFrom", "(J)V"⟩ : MethodName)) hown (mvT hZ (hw _ (List.mem_of_getElem? (i := 39) rfl))) (mvT hZ (hw _ (List.mem_of_getElem? (i := 40) rfl))) (notFace_of_selects (args := #[]) (mvT hZ (hw _ (List.mem_of_getElem? (i := 42) rfl)))) (mvT hZ (hw _ (List.mem_of_getElem? (i := 42) rfl))) (mvT hZ (hw _ (List.mem_of_getElem? (i := 41) rfl))) (by decide) (backOf (W := 0) (rm8 l Z a0 hw [] b g1 s1 c1 T19.heap n0 Z0 E_b F_b_self F_b_copiesFrom g_b) hZ (hw _ (List.mem_of_getElem? (i := 43) rfl)) (hw _ (List.mem_of_getElem? (i := 2) rfl)) (by decide) (by decide)) q20a q20c (g := (mkF m 132 #[.val (.long j1), .second, .val (.long j2), .second, .val (.long j3), .second, .val (.int i1), .val (.int (i1 &&& (7 : Int32))), .val (.long s1), .second, .val (.long c1), .second, .val (.long g1), .second, .val (.ref b)] [(.long g1), (.ref b)])) rfl (by rw [hml]; rfl) (Steps.refl _) (argsL := [(.long g1)]) (rest := []) (lenOf pd_3 rfl) rfl (by show 2 * 0 + _ ≤ _; exact Nat.le_of_eq rfl) (hb hby at_132) (fun _ _ => ⟨rfl, rfl, Nat.le_of_ble_eq_true rfl, Nat.le_of_ble_eq_true rfl⟩)
    dsimp only [Pt.U, Pt.locs, Pt.cells, Pt.slots] at X20 l20 y20 z20 st20 hQ20
    subst l20 y20 z20
    obtain ⟨rfl, N20q, K20, -, F_b_copiesFrom⟩ := hQ20
    have N20 := Fr.app N19 N20q
    have E_b := E_b.keep K20
    have Z0 := Nat.le_trans Z0 K20.1
    refine own_via (fun _ kt => st20.trans kt) ?_
    show own_G _ _ _ _ (T20.setTop (mkF m 135 #[.val (.long j1), .second, .val (.long j2), .second, .val (.long j3), .second, .val (.int i1), .val (.int (i1 &&& (7 : Int32))), .val (.long s1), .second, .val (.long c1), .second, .val (.long g1), .second, .val (.ref b)] []))
    refine own_via (fun _ k => XS.aload X20.here hx rfl (hb hby at_135) rfl rfl k) ?_
    show own_G _ _ _ _ (T20.setTop (mkF m 137 #[.val (.long j1), .second, .val (.long j2), .second, .val (.long j3), .second, .val (.int i1), .val (.int (i1 &&& (7 : Int32))), .val (.long s1), .second, .val (.long c1), .second, .val (.long g1), .second, .val (.ref b)] [(.ref b)]))
    obtain ⟨cq21, kq21, q21a, q21b, q21c⟩ := isOf hZ rfl E_b
    obtain ⟨_, _, ⟨T21, L21, k21, n21⟩, -, X21, ⟨Lc21, hQ21, l21, y21, z21⟩, st21⟩ := X20.virtualBack hx (y := (⟨"com/example/triplemesh/triplemesh/Holdings", "copiesFrom", "()J"⟩ : MethodName)) (z := (⟨"com/example/triplemesh/triplemesh/Holdings", "copiesFrom", "()J"⟩ : MethodName)) hown (mvT hZ (hw _ (List.mem_of_getElem? (i := 59) rfl))) (mvT hZ (hw _ (List.mem_of_getElem? (i := 60) rfl))) (notFace_of_selects (args := #[]) (mvT hZ (hw _ (List.mem_of_getElem? (i := 62) rfl)))) (mvT hZ (hw _ (List.mem_of_getElem? (i := 62) rfl))) (mvT hZ (hw _ (List.mem_of_getElem? (i := 61) rfl))) (by decide) (backOf (W := 0) (rm11 l Z a0 hw [] b (if (¬ ¬ (((g1 - c1).toInt < 0) ∨ (0 < (g1 - c1).toInt))) ∧ ((¬ (((s1 - c1).toInt < 0) ∨ (0 < (s1 - c1).toInt))) ∨ (((g1 - c1) ^^^ (-9223372036854775808)).toInt < ((s1 - c1) ^^^ (-9223372036854775808)).toInt)) then g1 else c1) T20.heap n0 Z0 F_b_copiesFrom) hZ (hw _ (List.mem_of_getElem? (i := 63) rfl)) (hw _ (List.mem_of_getElem? (i := 2) rfl)) (by decide) (by decide)) q21a q21c (g := (mkF m 137 #[.val (.long j1), .second, .val (.long j2), .second, .val (.long j3), .second, .val (.int i1), .val (.int (i1 &&& (7 : Int32))), .val (.long s1), .second, .val (.long c1), .second, .val (.long g1), .second, .val (.ref b)] [(.ref b)])) rfl (by rw [hml]; rfl) (Steps.refl _) (argsL := []) (rest := []) (lenOf pd_4 rfl) rfl (by show 2 * 0 + _ ≤ _; exact Nat.le_of_eq rfl) (hb hby at_137) (fun _ _ => ⟨rfl, rfl, Nat.le_of_ble_eq_true rfl, Nat.le_of_ble_eq_true rfl⟩)
    dsimp only [Pt.U, Pt.locs, Pt.cells, Pt.slots] at X21 l21 y21 z21 st21 hQ21
    subst l21 y21 z21
    obtain ⟨rfl, N21q, e21⟩ := hQ21
    have N21 := Fr.app N20 N21q
    refine own_via (fun _ kt => st21.trans kt) ?_
    show own_G _ _ _ _ (T21.setTop (mkF m 140 #[.val (.long j1), .second, .val (.long j2), .second, .val (.long j3), .second, .val (.int i1), .val (.int (i1 &&& (7 : Int32))), .val (.long s1), .second, .val (.long c1), .second, .val (.long g1), .second, .val (.ref b)] [(.long (if (¬ ¬ (((g1 - c1).toInt < 0) ∨ (0 < (g1 - c1).toInt))) ∧ ((¬ (((s1 - c1).toInt < 0) ∨ (0 < (s1 - c1).toInt))) ∨ (((g1 - c1) ^^^ (-9223372036854775808)).toInt < ((s1 - c1) ^^^ (-9223372036854775808)).toInt)) then g1 else c1))]))
    refine own_via (fun _ k => XS.lload X21.here hx rfl (hb hby at_140) rfl k) ?_
    show own_G _ _ _ _ (T21.setTop (mkF m 142 #[.val (.long j1), .second, .val (.long j2), .second, .val (.long j3), .second, .val (.int i1), .val (.int (i1 &&& (7 : Int32))), .val (.long s1), .second, .val (.long c1), .second, .val (.long g1), .second, .val (.ref b)] [(.long s1), (.long (if (¬ ¬ (((g1 - c1).toInt < 0) ∨ (0 < (g1 - c1).toInt))) ∧ ((¬ (((s1 - c1).toInt < 0) ∨ (0 < (s1 - c1).toInt))) ∨ (((g1 - c1) ^^^ (-9223372036854775808)).toInt < ((s1 - c1) ^^^ (-9223372036854775808)).toInt)) then g1 else c1))]))
    refine own_via (fun _ k => XS.lload X21.here hx rfl (hb hby at_142) rfl k) ?_
    show own_G _ _ _ _ (T21.setTop (mkF m 144 #[.val (.long j1), .second, .val (.long j2), .second, .val (.long j3), .second, .val (.int i1), .val (.int (i1 &&& (7 : Int32))), .val (.long s1), .second, .val (.long c1), .second, .val (.long g1), .second, .val (.ref b)] [(.long c1), (.long s1), (.long (if (¬ ¬ (((g1 - c1).toInt < 0) ∨ (0 < (g1 - c1).toInt))) ∧ ((¬ (((s1 - c1).toInt < 0) ∨ (0 < (s1 - c1).toInt))) ∨ (((g1 - c1) ^^^ (-9223372036854775808)).toInt < ((s1 - c1) ^^^ (-9223372036854775808)).toInt)) then g1 else c1))]))
    refine own_via (fun _ k => XS.lload X21.here hx rfl (hb hby at_144) rfl k) ?_
    show own_G _ _ _ _ (T21.setTop (mkF m 146 #[.val (.long j1), .second, .val (.long j2), .second, .val (.long j3), .second, .val (.int i1), .val (.int (i1 &&& (7 : Int32))), .val (.long s1), .second, .val (.long c1), .second, .val (.long g1), .second, .val (.ref b)] [(.long g1), (.long c1), (.long s1), (.long (if (¬ ¬ (((g1 - c1).toInt < 0) ∨ (0 < (g1 - c1).toInt))) ∧ ((¬ (((s1 - c1).toInt < 0) ∨ (0 < (s1 - c1).toInt))) ∨ (((g1 - c1) ^^^ (-9223372036854775808)).toInt < ((s1 - c1) ^^^ (-9223372036854775808)).toInt)) then g1 else c1))]))
    obtain ⟨_, _, ⟨T22, L22, k22, n22⟩, -, X22, ⟨Lc22, hQ22, l22, y22, z22⟩, st22⟩ := Jvm.LawKit.callS X21 hx (y := (⟨"com/example/triplemesh/triplemesh/HoldingsKeepFromPinLaw", "expected", "(JJJ)J"⟩ : MethodName)) hown (mvT hZ (hw _ (List.mem_of_getElem? (i := 64) rfl))) (mvT hZ (hw _ (List.mem_of_getElem? (i := 65) rfl))) (mvT hZ (hw _ (List.mem_of_getElem? (i := 66) rfl))) (mvT hZ (hw _ (List.mem_of_getElem? (i := 67) rfl))) (by decide) (backOf (W := 2) (rm12 l Z a0 hw [] s1 c1 g1 T20.heap n0 Z0) hZ (hw _ (List.mem_of_getElem? (i := 67) rfl)) (hw _ (List.mem_of_getElem? (i := 66) rfl)) (by decide) (by decide)) (g := (mkF m 146 #[.val (.long j1), .second, .val (.long j2), .second, .val (.long j3), .second, .val (.int i1), .val (.int (i1 &&& (7 : Int32))), .val (.long s1), .second, .val (.long c1), .second, .val (.long g1), .second, .val (.ref b)] [(.long g1), (.long c1), (.long s1), (.long (if (¬ ¬ (((g1 - c1).toInt < 0) ∨ (0 < (g1 - c1).toInt))) ∧ ((¬ (((s1 - c1).toInt < 0) ∨ (0 < (s1 - c1).toInt))) ∨ (((g1 - c1) ^^^ (-9223372036854775808)).toInt < ((s1 - c1) ^^^ (-9223372036854775808)).toInt)) then g1 else c1))])) rfl (by rw [hml]; rfl) (argsL := [(.long s1), (.long c1), (.long g1)]) (rest := [(.long (if (¬ ¬ (((g1 - c1).toInt < 0) ∨ (0 < (g1 - c1).toInt))) ∧ ((¬ (((s1 - c1).toInt < 0) ∨ (0 < (s1 - c1).toInt))) ∨ (((g1 - c1) ^^^ (-9223372036854775808)).toInt < ((s1 - c1) ^^^ (-9223372036854775808)).toInt)) then g1 else c1))]) (lenOf pd_5 rfl) rfl (by show 2 * 0 + _ ≤ _; exact Nat.le_of_eq rfl) (hb hby at_146) (fun _ _ => ⟨rfl, e21, Nat.le_of_ble_eq_true rfl, Nat.le_of_ble_eq_true rfl⟩)
    dsimp only [Pt.U, Pt.locs, Pt.cells, Pt.slots] at X22 l22 y22 z22 st22 hQ22
    subst l22 y22 z22
    obtain ⟨rfl, N22q, e22⟩ := hQ22
    have N22 := Fr.app N21 N22q
    refine own_via st22 ?_
    show own_G _ _ _ _ (T22.setTop (mkF m 149 #[.val (.long j1), .second, .val (.long j2), .second, .val (.long j3), .second, .val (.int i1), .val (.int (i1 &&& (7 : Int32))), .val (.long s1), .second, .val (.long c1), .second, .val (.long g1), .second, .val (.ref b)] [(.long (if (c1 = s1 ∨ (¬ (g1 - c1) = (0 : Int64) ∧ ((g1 - c1) ^^^ (-9223372036854775808 : Int64)) < ((s1 - c1) ^^^ (-9223372036854775808 : Int64)))) then g1 else c1)), (.long (if (¬ ¬ (((g1 - c1).toInt < 0) ∨ (0 < (g1 - c1).toInt))) ∧ ((¬ (((s1 - c1).toInt < 0) ∨ (0 < (s1 - c1).toInt))) ∨ (((g1 - c1) ^^^ (-9223372036854775808)).toInt < ((s1 - c1) ^^^ (-9223372036854775808)).toInt)) then g1 else c1))]))
    refine own_via (fun _ k => XS.lcmp X22.here hx rfl (hb hby at_149) rfl k) ?_
    show own_G _ _ _ _ (T22.setTop (mkF m 150 #[.val (.long j1), .second, .val (.long j2), .second, .val (.long j3), .second, .val (.int i1), .val (.int (i1 &&& (7 : Int32))), .val (.long s1), .second, .val (.long c1), .second, .val (.long g1), .second, .val (.ref b)] [(.int (lcmpW (if (¬ ¬ (((g1 - c1).toInt < 0) ∨ (0 < (g1 - c1).toInt))) ∧ ((¬ (((s1 - c1).toInt < 0) ∨ (0 < (s1 - c1).toInt))) ∨ (((g1 - c1) ^^^ (-9223372036854775808)).toInt < ((s1 - c1) ^^^ (-9223372036854775808)).toInt)) then g1 else c1) (if (c1 = s1 ∨ (¬ (g1 - c1) = (0 : Int64) ∧ ((g1 - c1) ^^^ (-9223372036854775808 : Int64)) < ((s1 - c1) ^^^ (-9223372036854775808 : Int64)))) then g1 else c1)))]))
    refine own_via (fun _ k => XS.ifNo X22.here hx rfl (hb hby at_150) rfl ((if0 _ _).trans (teq ((lw_eq _ _).mpr (own_keep s1 c1 g1))).2) k) ?_
    show own_G _ _ _ _ (T22.setTop (mkF m 153 #[.val (.long j1), .second, .val (.long j2), .second, .val (.long j3), .second, .val (.int i1), .val (.int (i1 &&& (7 : Int32))), .val (.long s1), .second, .val (.long c1), .second, .val (.long g1), .second, .val (.ref b)] []))
    refine own_via (fun _ k => XS.iconst X22.here hx rfl (hb hby at_153) k) ?_
    show own_G _ _ _ _ (T22.setTop (mkF m 154 #[.val (.long j1), .second, .val (.long j2), .second, .val (.long j3), .second, .val (.int i1), .val (.int (i1 &&& (7 : Int32))), .val (.long s1), .second, .val (.long c1), .second, .val (.long g1), .second, .val (.ref b)] [(.int (1 : Int32))]))
    refine own_via (fun _ k => XS.goto X22.here hx rfl (pc0 := 154) (pc' := 158) rfl (hb hby at_154) (by decide) (by decide) k) ?_
    show own_G _ _ _ _ (T22.setTop (mkF m 158 #[.val (.long j1), .second, .val (.long j2), .second, .val (.long j3), .second, .val (.int i1), .val (.int (i1 &&& (7 : Int32))), .val (.long s1), .second, .val (.long c1), .second, .val (.long g1), .second, .val (.ref b)] [(.int (1 : Int32))]))
    obtain ⟨fs, hr, hrun, hended, hW, hsame⟩ := X22.leave (v := some (.int (1 : Int32))) (fun h => by rw [Bd.returns] at h; cases h)
    exact ⟨_, _, retN X22 hx (t := .boolean) Bd.returns (by simp) (hb hby at_158) hr, hrun, hended, _, _, rfl, ⟨rfl, N22⟩, ⟨_, rfl⟩, hW, hsame.mono (by decide) (by decide)⟩
set_option maxRecDepth 65536 in
set_option maxHeartbeats 40000000 in
theorem comes_1 {Post : Tables → Env → Array Value → State → Outcome → State → Prop} (hpost : ∀ tb e args s v u, (limb_1_1.after args s (.returned v) u = true ∧ limb_1_2.after args s (.returned v) u = true ∧ True) → FrameEnd s (.returned v) u (Jvm.fieldLocs frame_1_writes args s ++ Jvm.arrayLocs frame_1_arrays args s ++ Jvm.staticLocs frame_1_statics s) 16 128 → Post tb e args s (.returned v) u) :
    ArmFor flags0 classFile x code maxLocals ret World_1 tables_1 room_1 Calls_1 rest_1 Pre_1 Post := by
  intro l hfl _ _ p e ha hc hk s m args below hf hA hF happ hP
  obtain ⟨hcalls, hrest, hpre⟩ := hP
  obtain ⟨-, -, -, hnamed, -, -, -, hat⟩ := (Spec.applies_iff hf).mp happ
  have hall := flat_of_before _ (show (Jvm.Cond.and given_1 narrow_1).before args s = true from hpre)
  have hKK : own_Kinds [.long, .long, .long, .int] args := by
    refine own_Kinds_of (s := s) ?_ fun q hq => hall q ?_
    · have := hall (.count 4) (by simp [flatC, given_1])
      simpa [Cond.before, Cond.holds, Cond.value] using this
    · have hf : flatC (Jvm.Cond.and given_1 narrow_1) = .count 4 :: (Jvm.Sym.sorts 0 [.long, .long, .long, .int] ++ flatC narrow_1) := rfl
      rw [hf]; exact List.mem_cons_of_mem _ (List.mem_append_left _ hq)
  obtain ⟨v0, v1, v2, v3, rfl, q0, q1, q2, q3⟩ := own_k4 hKK
  obtain ⟨j1, rfl⟩ := own_long q0
  obtain ⟨j2, rfl⟩ := own_long q1
  obtain ⟨j3, rfl⟩ := own_long q2
  obtain ⟨i1, rfl⟩ := own_int q3
  have hw := fun d (hd : d ∈ tables_1) => atoms_spec (ws := Jvm.Cond.code x code maxLocals ret :: tables_1) hat d (List.mem_cons_of_mem _ hd)
  obtain ⟨hsets, hown0⟩ := atoms_of _ (rest_1_c_eq ▸ (show rest_1_c.before _ s = true from hrest))
  obtain ⟨o1, eo1⟩ := exa_v (Cond.before_iff.mp (hsets _ (List.mem_of_getElem? (i := 7) rfl)))
  have S_d : Sta s s.heap "java/util/ArrayList" "DEFAULTCAPACITY_EMPTY_ELEMENTDATA" "[Ljava/lang/Object;" (.ref o1) := Sta.start eo1 (Or.inr ⟨hw _ (List.mem_of_getElem? (i := 11) rfl), hsets _ (List.mem_of_getElem? (i := 2) rfl)⟩)
  obtain ⟨n, o, h1, h2, h3, _, L, rfl, ⟨rfl, N⟩, hq⟩ := rm0 l s _ hw tables_1 j1 j2 j3 i1 s.heap s.heap.size (Nat.le_refl _) o1 S_d p e ha hc hk s m _ below hf ((Spec.applies_iff_loose hf).mp happ).1 ⟨rfl, State.Warmed39.refl s, rfl⟩ trivial
  refine ⟨n, _, h1, h2, h3, hpost _ _ _ _ _ _ ⟨Cond.after_iff.mpr rfl, Cond.after_iff.mpr (eq_i res_at (Term.int_eval (1)) rfl), trivial⟩ ⟨hq.1, hq.2.1, (hq.2.2.sift fun y hy => Or.inr (N y hy)).mono (by decide) (by decide)⟩⟩
theorem main_1_1 : Claimed_1_1 := comes_1 fun _ _ _ _ _ _ h hF => ⟨h.1, hF⟩
theorem main_1_2 : Claimed_1_2 := comes_1 fun _ _ _ _ _ _ h hF => ⟨h.2.1, hF⟩
end Jvm.Pilot.@@N@@
namespace Jvm.Pilot.@@N@@
open Jvm Jvm.ClassFile Sem Op Lib Jvm.Free Jvm.Stand Jvm.Pilot.@@N@@.Jvm.D
/-! MADE BY PROGRAM (witnessworld.py) out of the Statement's table words and the real class files: 24 classes; the members and pool entries that the words name. The judged class is class 1, her method 2. -/
namespace start1
open Jvm.ClassFile
def u (s : String) : CpInfo := .utf8 (stringToUtf16 s)
/-- a pool by its gaps: so many unusable entries, then the entry; so many at the end -/
def gap : Nat → List CpInfo → List CpInfo
  | 0, r => r
  | n + 1, r => .unusable :: gap n r
def poolList (es : List (Nat × CpInfo)) (last : Nat) : List CpInfo := es.foldr (fun e r => gap e.1 (e.2 :: r)) (gap last [])
def pool (es : List (Nat × CpInfo)) (last : Nat) : Array CpInfo := ⟨poolList es last⟩
def fileOf (pool : Array CpInfo) (this : Nat) (attrs : Array Attribute := #[]) (ms : Array MethodInfo := #[]) (fl : Nat := 33) (sup : Nat := 0) (ifs : Array Nat := #[]) (fds : Array FieldInfo := #[]) : ClassFile where
  minorVersion := 0
  majorVersion := 65
  constantPool := pool
  accessFlags := fl
  thisClass := this
  superClass := sup
  interfaces := ifs
  fields := fds
  methods := ms
  attributes := attrs
def plain (name : String) (sup : Option ClassId) : Class where
  name := name
  kind := .ordinary
  loader := none
  accessFlags := 33
  super := sup
  interfaces := #[]
  cf := none
  fields := #[]
  methods := #[]
  instanceTypes := #[]
  staticTypes := #[]
  resolved := #[]
  callSites := []
  init := .initialized
  statics := none
  mirror := none

def pool0 : Array CpInfo := pool [(5, u "<init>"), (0, u "()V"), (1, .class_ 10), (1, u "java/lang/Object")] 113

def k0c0 : Code := { maxStack := 0, maxLocals := 1, code := object_method_1_code, exceptionTable := #[], attributes := #[] }
def k0m0 : Method := { name := "<init>", desc := "()V", sig := { parameters := [], returnType := none }, accessFlags := 1, code := some k0c0 }
/-- java/lang/Object -/
def k0 : Class := { plain "java/lang/Object" none with
  accessFlags := 33
  interfaces := #[]
  cf := some (fileOf pool0 8 #[] #[{ accessFlags := 1, nameIndex := 5, descriptorIndex := 6, attributes := #[] }] 33 0 #[] #[])
  fields := #[]
  methods := #[k0m0]
  instanceTypes := #[]
  staticTypes := #[]
  resolved := Array.replicate 124 none
  statics := none }

def pool1 : Array CpInfo := pool [(2, .class_ 4), (1, u "java/lang/Object"), (0, u "<init>"), (0, u "()V"), (2, .long 9223372036854775808), (1, .class_ 12), (0, u "com/example/triplemesh/triplemesh/Holdings"), (0, .methodref 11 14), (0, .nameAndType 5 15), (0, u "(JJ)V"), (0, .methodref 11 17), (0, .nameAndType 18 19), (0, u "keepFrom"), (0, u "(J)V"), (0, .methodref 11 21), (0, .nameAndType 22 23), (0, u "copiesFrom"), (0, u "()J"), (0, .methodref 25 26), (0, .class_ 27), (0, .nameAndType 28 29), (0, u "com/example/triplemesh/triplemesh/HoldingsKeepFromPinLaw"), (0, u "expected"), (0, u "(JJJ)J"), (3, u "law"), (0, u "(JJJI)Z")] 2

def k1m0 : Method := { name := "<init>", desc := "()V", sig := { parameters := [], returnType := none }, accessFlags := 2, code := none }
def k1c1 : Code := { maxStack := 6, maxLocals := 10, code := method_2_code, exceptionTable := #[], attributes := #[] }
def k1m1 : Method := { name := "expected", desc := "(JJJ)J", sig := { parameters := [.long, .long, .long], returnType := some .long }, accessFlags := 10, code := some k1c1 }
def k1c2 : Code := { maxStack := 8, maxLocals := 15, code := code, exceptionTable := #[], attributes := #[] }
def k1m2 : Method := { name := "law", desc := "(JJJI)Z", sig := { parameters := [.long, .long, .long, .int], returnType := some .boolean }, accessFlags := 9, code := some k1c2 }
/-- com/example/triplemesh/triplemesh/HoldingsKeepFromPinLaw -/
def k1 : Class := { plain "com/example/triplemesh/triplemesh/HoldingsKeepFromPinLaw" (some 0) with
  accessFlags := 49
  interfaces := #[]
  cf := some (fileOf pool1 25 #[] #[{ accessFlags := 2, nameIndex := 5, descriptorIndex := 6, attributes := #[] }, { accessFlags := 10, nameIndex := 28, descriptorIndex := 29, attributes := #[] }, { accessFlags := 9, nameIndex := 33, descriptorIndex := 34, attributes := #[] }] 49 2 #[] #[])
  fields := #[]
  methods := #[k1m0, k1m1, k1m2]
  instanceTypes := #[]
  staticTypes := #[]
  resolved := Array.replicate 37 none
  statics := none }

def pool2 : Array CpInfo := pool [(1, .methodref 2 3), (0, .class_ 4), (0, .nameAndType 5 6), (0, u "java/lang/Object"), (0, u "<init>"), (0, u "()V"), (0, .class_ 8), (0, u "java/util/ArrayList"), (0, .methodref 7 3), (0, .fieldref 11 12), (0, .class_ 13), (0, .nameAndType 14 15), (0, u "com/example/triplemesh/triplemesh/Holdings"), (0, u "lost"), (0, u "Ljava/util/List;"), (0, .fieldref 11 17), (0, .nameAndType 18 19), (0, u "self"), (0, u "J"), (0, .fieldref 11 21), (0, .nameAndType 22 19), (0, u "copiesFrom"), (2, u "(JJ)V"), (11, u "()J"), (1, .class_ 41), (1, u "com/example/triplemesh/triplemesh/Ring"), (1, u "(JJJ)Z"), (0, .class_ 45), (0, u "com/example/triplemesh/triplemesh/Holdings$Lost"), (21, u "keepFrom"), (0, u "(J)V"), (0, .methodref 39 70), (0, .nameAndType 71 43), (0, u "inOpen")] 94

def k2c0 : Code := { maxStack := 3, maxLocals := 5, code := prog_2_method_1_code, exceptionTable := #[], attributes := #[] }
def k2m0 : Method := { name := "<init>", desc := "(JJ)V", sig := { parameters := [.long, .long], returnType := none }, accessFlags := 0, code := some k2c0 }
def k2c1 : Code := { maxStack := 2, maxLocals := 1, code := prog_2_method_5_code, exceptionTable := #[], attributes := #[] }
def k2m1 : Method := { name := "copiesFrom", desc := "()J", sig := { parameters := [], returnType := some .long }, accessFlags := 0, code := some k2c1 }
def k2c2 : Code := { maxStack := 6, maxLocals := 3, code := prog_2_method_8_code, exceptionTable := #[], attributes := #[] }
def k2m2 : Method := { name := "keepFrom", desc := "(J)V", sig := { parameters := [.long], returnType := none }, accessFlags := 0, code := some k2c2 }
/-- com/example/triplemesh/triplemesh/Holdings -/
def k2 : Class := { plain "com/example/triplemesh/triplemesh/Holdings" (some 0) with
  accessFlags := 48
  interfaces := #[]
  cf := some (fileOf pool2 11 #[.nestMembers #[44]] #[{ accessFlags := 0, nameIndex := 5, descriptorIndex := 25, attributes := #[] }, { accessFlags := 0, nameIndex := 22, descriptorIndex := 37, attributes := #[] }, { accessFlags := 0, nameIndex := 67, descriptorIndex := 68, attributes := #[] }] 48 2 #[] #[{ accessFlags := 18, nameIndex := 18, descriptorIndex := 19, attributes := #[] }, { accessFlags := 18, nameIndex := 14, descriptorIndex := 15, attributes := #[] }, { accessFlags := 2, nameIndex := 22, descriptorIndex := 19, attributes := #[] }])
  fields := #[{ name := "self", type := .long, accessFlags := 18, slot := 0, constantValue := 0 }, { name := "lost", type := (.object "java/util/List"), accessFlags := 18, slot := 1, constantValue := 0 }, { name := "copiesFrom", type := .long, accessFlags := 2, slot := 2, constantValue := 0 }]
  methods := #[k2m0, k2m1, k2m2]
  instanceTypes := #[.long, (.object "java/util/List"), .long]
  staticTypes := #[]
  resolved := Array.replicate 166 none
  statics := none }

def pool3 : Array CpInfo := pool [(8, .class_ 10), (1, u "java/lang/Iterable"), (24, .class_ 36), (0, u "java/lang/Object")] 25

/-- java/lang/Iterable -/
def k3 : Class := { plain "java/lang/Iterable" (some 0) with
  accessFlags := 1537
  interfaces := #[]
  cf := some (fileOf pool3 8 #[] #[] 1537 35 #[] #[])
  fields := #[]
  methods := #[]
  instanceTypes := #[]
  staticTypes := #[]
  resolved := Array.replicate 62 none
  statics := none }

def pool4 : Array CpInfo := pool [(10, .class_ 12), (1, u "java/util/Collection"), (47, .class_ 61), (0, u "java/lang/Object"), (0, .class_ 63), (0, u "java/lang/Iterable")] 51

/-- java/util/Collection -/
def k4 : Class := { plain "java/util/Collection" (some 0) with
  accessFlags := 1537
  interfaces := #[3]
  cf := some (fileOf pool4 10 #[] #[] 1537 60 #[62] #[])
  fields := #[]
  methods := #[]
  instanceTypes := #[]
  staticTypes := #[]
  resolved := Array.replicate 115 none
  statics := none }

def pool5 : Array CpInfo := pool [(1, .methodref 2 3), (0, .class_ 4), (0, .nameAndType 5 6), (0, u "java/lang/Object"), (0, u "<init>"), (0, u "()V"), (1, .class_ 10), (1, u "java/util/AbstractCollection"), (66, .class_ 78), (0, u "java/util/Collection")] 81

def k5c0 : Code := { maxStack := 1, maxLocals := 1, code := jdk_22_method_1_code, exceptionTable := #[], attributes := #[] }
def k5m0 : Method := { name := "<init>", desc := "()V", sig := { parameters := [], returnType := none }, accessFlags := 4, code := some k5c0 }
/-- java/util/AbstractCollection -/
def k5 : Class := { plain "java/util/AbstractCollection" (some 0) with
  accessFlags := 1057
  interfaces := #[4]
  cf := some (fileOf pool5 8 #[] #[{ accessFlags := 4, nameIndex := 5, descriptorIndex := 6, attributes := #[] }] 1057 2 #[77] #[])
  fields := #[]
  methods := #[k5m0]
  instanceTypes := #[]
  staticTypes := #[]
  resolved := Array.replicate 160 none
  statics := none }

def pool6 : Array CpInfo := pool [(8, .class_ 10), (1, u "java/util/SequencedCollection"), (15, .class_ 27), (0, u "java/lang/Object"), (0, .class_ 29), (0, u "java/util/Collection")] 27

/-- java/util/SequencedCollection -/
def k6 : Class := { plain "java/util/SequencedCollection" (some 0) with
  accessFlags := 1537
  interfaces := #[4]
  cf := some (fileOf pool6 8 #[] #[] 1537 26 #[28] #[])
  fields := #[]
  methods := #[]
  instanceTypes := #[]
  staticTypes := #[]
  resolved := Array.replicate 57 none
  statics := none }

def pool7 : Array CpInfo := pool [(8, .class_ 10), (1, u "java/util/List"), (92, .class_ 104), (0, u "java/lang/Object"), (15, .class_ 121), (0, u "java/util/SequencedCollection")] 129

/-- java/util/List -/
def k7 : Class := { plain "java/util/List" (some 0) with
  accessFlags := 1537
  interfaces := #[6]
  cf := some (fileOf pool7 8 #[] #[] 1537 103 #[120] #[])
  fields := #[]
  methods := #[]
  instanceTypes := #[]
  staticTypes := #[]
  resolved := Array.replicate 251 none
  statics := none }

def pool8 : Array CpInfo := pool [(1, .methodref 2 3), (0, .class_ 4), (0, .nameAndType 5 6), (0, u "java/util/AbstractCollection"), (0, u "<init>"), (0, u "()V"), (0, .fieldref 8 9), (0, .class_ 10), (0, .nameAndType 11 12), (0, u "java/util/AbstractList"), (0, u "modCount"), (0, u "I"), (64, .class_ 78), (0, u "java/util/AbstractList$Itr"), (3, .class_ 83), (0, u "java/util/AbstractList$ListItr"), (9, .class_ 94), (0, u "java/util/AbstractList$RandomAccessSubList"), (3, .class_ 99), (0, u "java/util/AbstractList$SubList"), (33, .class_ 134), (0, u "java/util/List"), (73, .class_ 209), (0, u "java/util/AbstractList$SubList$1"), (0, .class_ 211), (0, u "java/util/AbstractList$RandomAccessSpliterator")] 6

def k8c0 : Code := { maxStack := 2, maxLocals := 1, code := jdk_39_method_1_code, exceptionTable := #[], attributes := #[] }
def k8m0 : Method := { name := "<init>", desc := "()V", sig := { parameters := [], returnType := none }, accessFlags := 4, code := some k8c0 }
/-- java/util/AbstractList -/
def k8 : Class := { plain "java/util/AbstractList" (some 5) with
  accessFlags := 1057
  interfaces := #[7]
  cf := some (fileOf pool8 8 #[.nestMembers #[93, 98, 208, 210, 82, 77]] #[{ accessFlags := 4, nameIndex := 5, descriptorIndex := 6, attributes := #[] }] 1057 2 #[133] #[{ accessFlags := 132, nameIndex := 11, descriptorIndex := 12, attributes := #[] }])
  fields := #[{ name := "modCount", type := .int, accessFlags := 132, slot := 0, constantValue := 0 }]
  methods := #[k8m0]
  instanceTypes := #[.int]
  staticTypes := #[]
  resolved := Array.replicate 218 none
  statics := none }

def pool9 : Array CpInfo := pool [(1, .class_ 2), (0, u "java/util/RandomAccess"), (0, .class_ 4), (0, u "java/lang/Object")] 2

/-- java/util/RandomAccess -/
def k9 : Class := { plain "java/util/RandomAccess" (some 0) with
  accessFlags := 1537
  interfaces := #[]
  cf := some (fileOf pool9 1 #[] #[] 1537 3 #[] #[])
  fields := #[]
  methods := #[]
  instanceTypes := #[]
  staticTypes := #[]
  resolved := Array.replicate 7 none
  statics := none }

def pool10 : Array CpInfo := pool [(1, .class_ 2), (0, u "java/lang/Cloneable"), (0, .class_ 4), (0, u "java/lang/Object")] 2

/-- java/lang/Cloneable -/
def k10 : Class := { plain "java/lang/Cloneable" (some 0) with
  accessFlags := 1537
  interfaces := #[]
  cf := some (fileOf pool10 1 #[] #[] 1537 3 #[] #[])
  fields := #[]
  methods := #[]
  instanceTypes := #[]
  staticTypes := #[]
  resolved := Array.replicate 7 none
  statics := none }

def pool11 : Array CpInfo := pool [(1, .class_ 2), (0, u "java/io/Serializable"), (0, .class_ 4), (0, u "java/lang/Object")] 2

/-- java/io/Serializable -/
def k11 : Class := { plain "java/io/Serializable" (some 0) with
  accessFlags := 1537
  interfaces := #[]
  cf := some (fileOf pool11 1 #[] #[] 1537 3 #[] #[])
  fields := #[]
  methods := #[]
  instanceTypes := #[]
  staticTypes := #[]
  resolved := Array.replicate 7 none
  statics := none }

def pool12 : Array CpInfo := pool [(1, .methodref 2 3), (0, .class_ 4), (0, .nameAndType 5 6), (0, u "java/util/AbstractList"), (0, u "<init>"), (0, u "()V"), (2, .fieldref 10 11), (0, .class_ 12), (0, .nameAndType 13 14), (0, u "java/util/ArrayList"), (0, u "elementData"), (0, u "[Ljava/lang/Object;"), (2, u "EMPTY_ELEMENTDATA"), (21, .fieldref 10 40), (0, .nameAndType 41 14), (0, u "DEFAULTCAPACITY_EMPTY_ELEMENTDATA"), (8, u "size"), (0, u "I"), (96, .class_ 149), (0, u "java/util/List"), (112, .class_ 263), (0, u "java/util/ArrayList$ListItr"), (3, .class_ 268), (0, u "java/util/ArrayList$Itr"), (7, .class_ 277), (0, u "java/util/ArrayList$SubList"), (12, .class_ 291), (0, u "java/util/ArrayList$ArrayListSpliterator"), (37, .class_ 330), (0, u "java/util/RandomAccess"), (0, .class_ 332), (0, u "java/lang/Cloneable"), (0, .class_ 334), (0, u "java/io/Serializable"), (0, u "serialVersionUID"), (0, u "J"), (3, u "DEFAULT_CAPACITY"), (159, .class_ 501), (0, u "java/util/ArrayList$SubList$2"), (0, .class_ 503), (0, u "java/util/ArrayList$SubList$1")] 5

def k12c0 : Code := { maxStack := 2, maxLocals := 1, code := jdk_38_method_2_code, exceptionTable := #[], attributes := #[] }
def k12m0 : Method := { name := "<init>", desc := "()V", sig := { parameters := [], returnType := none }, accessFlags := 1, code := some k12c0 }
/-- java/util/ArrayList -/
def k12 : Class := { plain "java/util/ArrayList" (some 8) with
  accessFlags := 33
  interfaces := #[7, 9, 10, 11]
  cf := some (fileOf pool12 10 #[.nestMembers #[290, 276, 500, 502, 262, 267]] #[{ accessFlags := 1, nameIndex := 5, descriptorIndex := 6, attributes := #[] }] 33 2 #[148, 329, 331, 333] #[{ accessFlags := 26, nameIndex := 335, descriptorIndex := 336, attributes := #[] }, { accessFlags := 26, nameIndex := 340, descriptorIndex := 51, attributes := #[] }, { accessFlags := 26, nameIndex := 17, descriptorIndex := 14, attributes := #[] }, { accessFlags := 26, nameIndex := 41, descriptorIndex := 14, attributes := #[] }, { accessFlags := 128, nameIndex := 13, descriptorIndex := 14, attributes := #[] }, { accessFlags := 2, nameIndex := 50, descriptorIndex := 51, attributes := #[] }])
  fields := #[{ name := "serialVersionUID", type := .long, accessFlags := 26, slot := 0, constantValue := 0 }, { name := "DEFAULT_CAPACITY", type := .int, accessFlags := 26, slot := 1, constantValue := 0 }, { name := "EMPTY_ELEMENTDATA", type := (.array (.object "java/lang/Object")), accessFlags := 26, slot := 2, constantValue := 0 }, { name := "DEFAULTCAPACITY_EMPTY_ELEMENTDATA", type := (.array (.object "java/lang/Object")), accessFlags := 26, slot := 3, constantValue := 0 }, { name := "elementData", type := (.array (.object "java/lang/Object")), accessFlags := 128, slot := 1, constantValue := 0 }, { name := "size", type := .int, accessFlags := 2, slot := 2, constantValue := 0 }]
  methods := #[k12m0]
  instanceTypes := #[.int, (.array (.object "java/lang/Object")), .int]
  staticTypes := #[.long, .int, (.array (.object "java/lang/Object")), (.array (.object "java/lang/Object"))]
  resolved := Array.replicate 509 none
  statics := some 0 }

def pool13 : Array CpInfo := pool [(2, .class_ 4), (1, u "java/lang/Object"), (0, u "<init>"), (0, u "()V"), (0, .methodref 8 9), (0, .class_ 10), (0, .nameAndType 11 12), (0, u "java/lang/Long"), (0, u "compareUnsigned"), (0, u "(JJ)I"), (0, .methodref 14 15), (0, .class_ 16), (0, .nameAndType 17 18), (0, u "com/example/triplemesh/triplemesh/Ring"), (0, u "inHalfOpen"), (0, u "(JJJ)Z"), (38, u "inOpen")] 4

def k13m0 : Method := { name := "<init>", desc := "()V", sig := { parameters := [], returnType := none }, accessFlags := 2, code := none }
def k13c1 : Code := { maxStack := 4, maxLocals := 6, code := prog_7_method_2_code, exceptionTable := #[], attributes := #[] }
def k13m1 : Method := { name := "inHalfOpen", desc := "(JJJ)Z", sig := { parameters := [.long, .long, .long], returnType := some .boolean }, accessFlags := 8, code := some k13c1 }
def k13c2 : Code := { maxStack := 6, maxLocals := 6, code := prog_7_method_3_code, exceptionTable := #[], attributes := #[] }
def k13m2 : Method := { name := "inOpen", desc := "(JJJ)Z", sig := { parameters := [.long, .long, .long], returnType := some .boolean }, accessFlags := 8, code := some k13c2 }
/-- com/example/triplemesh/triplemesh/Ring -/
def k13 : Class := { plain "com/example/triplemesh/triplemesh/Ring" (some 0) with
  accessFlags := 48
  interfaces := #[]
  cf := some (fileOf pool13 14 #[] #[{ accessFlags := 2, nameIndex := 5, descriptorIndex := 6, attributes := #[] }, { accessFlags := 8, nameIndex := 17, descriptorIndex := 18, attributes := #[] }, { accessFlags := 8, nameIndex := 57, descriptorIndex := 18, attributes := #[] }] 48 2 #[] #[])
  fields := #[]
  methods := #[k13m0, k13m1, k13m2]
  instanceTypes := #[]
  staticTypes := #[]
  resolved := Array.replicate 62 none
  statics := none }

def pool14 : Array CpInfo := pool [(2, .class_ 4), (1, u "java/lang/Object"), (0, u "<init>"), (0, u "()V"), (1, .class_ 10), (1, u "java/lang/Number"), (2, .class_ 14), (0, u "java/io/Serializable"), (0, u "serialVersionUID"), (0, u "J")] 20

def k14m0 : Method := { name := "<init>", desc := "()V", sig := { parameters := [], returnType := none }, accessFlags := 1, code := none }
/-- java/lang/Number -/
def k14 : Class := { plain "java/lang/Number" (some 0) with
  accessFlags := 1057
  interfaces := #[11]
  cf := some (fileOf pool14 8 #[] #[{ accessFlags := 1, nameIndex := 5, descriptorIndex := 6, attributes := #[] }] 1057 2 #[13] #[{ accessFlags := 26, nameIndex := 15, descriptorIndex := 16, attributes := #[] }])
  fields := #[{ name := "serialVersionUID", type := .long, accessFlags := 26, slot := 0, constantValue := 0 }]
  methods := #[k14m0]
  instanceTypes := #[]
  staticTypes := #[.long]
  resolved := Array.replicate 37 none
  statics := none }

def pool15 : Array CpInfo := pool [(1, .class_ 2), (0, u "java/lang/Comparable"), (0, .class_ 4), (0, u "java/lang/Object")] 7

/-- java/lang/Comparable -/
def k15 : Class := { plain "java/lang/Comparable" (some 0) with
  accessFlags := 1537
  interfaces := #[]
  cf := some (fileOf pool15 1 #[] #[] 1537 3 #[] #[])
  fields := #[]
  methods := #[]
  instanceTypes := #[]
  staticTypes := #[]
  resolved := Array.replicate 12 none
  statics := none }

def pool16 : Array CpInfo := pool [(1, .class_ 2), (0, u "java/lang/constant/Constable"), (0, .class_ 4), (0, u "java/lang/Object")] 6

/-- java/lang/constant/Constable -/
def k16 : Class := { plain "java/lang/constant/Constable" (some 0) with
  accessFlags := 1537
  interfaces := #[]
  cf := some (fileOf pool16 1 #[] #[] 1537 3 #[] #[])
  fields := #[]
  methods := #[]
  instanceTypes := #[]
  staticTypes := #[]
  resolved := Array.replicate 11 none
  statics := none }

def pool17 : Array CpInfo := pool [(1, .class_ 2), (0, u "java/lang/constant/ConstantDesc"), (0, .class_ 4), (0, u "java/lang/Object")] 32

/-- java/lang/constant/ConstantDesc -/
def k17 : Class := { plain "java/lang/constant/ConstantDesc" (some 0) with
  accessFlags := 1537
  interfaces := #[]
  cf := some (fileOf pool17 1 #[] #[] 1537 3 #[] #[])
  fields := #[]
  methods := #[]
  instanceTypes := #[]
  staticTypes := #[]
  resolved := Array.replicate 37 none
  statics := none }

def pool18 : Array CpInfo := pool [(1, .class_ 2), (0, u "java/lang/Long"), (165, .long 9223372036854775808), (66, .class_ 237), (1, u "java/lang/Long$LongCache"), (33, .class_ 272), (0, u "java/lang/Number"), (2, u "value"), (0, u "J"), (25, .methodref 1 303), (0, .nameAndType 304 305), (0, u "compare"), (0, u "(JJ)I"), (55, u "TYPE"), (0, u "Ljava/lang/Class;"), (0, .class_ 364), (0, u "java/lang/Comparable"), (0, .class_ 366), (0, u "java/lang/constant/Constable"), (0, .class_ 368), (0, u "java/lang/constant/ConstantDesc"), (0, u "MIN_VALUE"), (1, u "MAX_VALUE"), (4, u "SIZE"), (0, u "I"), (1, u "BYTES"), (1, u "serialVersionUID"), (87, u "compareUnsigned")] 54

def k18c0 : Code := { maxStack := 4, maxLocals := 4, code := jdk_35_method_42_code, exceptionTable := #[], attributes := #[] }
def k18m0 : Method := { name := "compare", desc := "(JJ)I", sig := { parameters := [.long, .long], returnType := some .int }, accessFlags := 9, code := some k18c0 }
def k18c1 : Code := { maxStack := 6, maxLocals := 4, code := jdk_35_method_43_code, exceptionTable := #[], attributes := #[] }
def k18m1 : Method := { name := "compareUnsigned", desc := "(JJ)I", sig := { parameters := [.long, .long], returnType := some .int }, accessFlags := 9, code := some k18c1 }
/-- java/lang/Long -/
def k18 : Class := { plain "java/lang/Long" (some 14) with
  accessFlags := 49
  interfaces := #[15, 16, 17]
  cf := some (fileOf pool18 1 #[.nestMembers #[235]] #[{ accessFlags := 9, nameIndex := 304, descriptorIndex := 305, attributes := #[] }, { accessFlags := 9, nameIndex := 469, descriptorIndex := 305, attributes := #[] }] 49 271 #[363, 365, 367] #[{ accessFlags := 25, nameIndex := 369, descriptorIndex := 276, attributes := #[] }, { accessFlags := 25, nameIndex := 371, descriptorIndex := 276, attributes := #[] }, { accessFlags := 25, nameIndex := 361, descriptorIndex := 362, attributes := #[] }, { accessFlags := 18, nameIndex := 275, descriptorIndex := 276, attributes := #[] }, { accessFlags := 25, nameIndex := 376, descriptorIndex := 377, attributes := #[] }, { accessFlags := 25, nameIndex := 379, descriptorIndex := 377, attributes := #[] }, { accessFlags := 26, nameIndex := 381, descriptorIndex := 276, attributes := #[] }])
  fields := #[{ name := "MIN_VALUE", type := .long, accessFlags := 25, slot := 0, constantValue := 0 }, { name := "MAX_VALUE", type := .long, accessFlags := 25, slot := 1, constantValue := 0 }, { name := "TYPE", type := (.object "java/lang/Class"), accessFlags := 25, slot := 2, constantValue := 0 }, { name := "value", type := .long, accessFlags := 18, slot := 0, constantValue := 0 }, { name := "SIZE", type := .int, accessFlags := 25, slot := 3, constantValue := 0 }, { name := "BYTES", type := .int, accessFlags := 25, slot := 4, constantValue := 0 }, { name := "serialVersionUID", type := .long, accessFlags := 26, slot := 5, constantValue := 0 }]
  methods := #[k18m0, k18m1]
  instanceTypes := #[.long]
  staticTypes := #[.long, .long, (.object "java/lang/Class"), .int, .int, .long]
  resolved := Array.replicate 524 none
  statics := none }

/-- the primitive byte -/
def k19 : Class := { plain "byte" none with kind := .primitive 'B', accessFlags := 0x411 }
/-- [B -/
def k20 : Class := { plain "[B" (some 0) with kind := .array 19 .byte, interfaces := #[10, 11], accessFlags := 1041 }

/-- the primitive int -/
def k21 : Class := { plain "int" none with kind := .primitive 'I', accessFlags := 0x411 }
/-- [I -/
def k22 : Class := { plain "[I" (some 0) with kind := .array 21 .int, interfaces := #[10, 11], accessFlags := 1041 }

/-- [Ljava/lang/Object; -/
def k23 : Class := { plain "[Ljava/lang/Object;" (some 0) with kind := .array 0 (.object "java/lang/Object"), interfaces := #[10, 11], accessFlags := 1041 }

def heap : Heap := #[{ cls := 12, slots := #[.long 0, .int 0, .ref 1, .ref 2], vm := .statics 12 },
  { cls := 23, slots := #[], vm := .none },
  { cls := 23, slots := #[], vm := .none }]
def classes : Array Class := #[k0, k1, k2, k3, k4, k5, k6, k7, k8, k9, k10, k11, k12, k13, k14, k15, k16, k17, k18, k19, k20, k21, k22, k23]
def interned : List (Array UInt16 × Addr) := []
def slotsUsed : Nat := 4
def theMethod : MethodId := ⟨1, 2⟩
def args0 : Array Value := #[.long 5, .long 300, .long 7, .int 3]
def aboutOver (below : List Frame) : State where
  vm := { classes := classes, interned := interned.toArray }
  heap := heap
  slotsUsed := slotsUsed
  threads := #[{ frames := .invoking theMethod args0 :: below }]
def below0 : List Frame := [.native { method := ⟨0, 0⟩, args := #[] }]
def about1 : State := aboutOver below0
def p0 : Program := .bare "" "" ""
def e0 : Env := launch0.env 0 0 0
theorem w_frames : about1.frames = Frame.invoking theMethod args0 :: below0 := rfl
set_option maxRecDepth 65536 in
theorem w_args : argsFit about1.vm theMethod args0 = true := by decide +kernel
set_option maxRecDepth 65536 in
theorem w_heap : heapFits about1 = true := by decide +kernel
set_option maxRecDepth 65536 in
theorem w_runnable : about1.curStatus? = some .runnable := by decide +kernel
set_option maxRecDepth 65536 in
theorem w_alone : about1.alone = true := by decide +kernel
set_option maxRecDepth 65536 in
theorem w_named : about1.methodNamed? x = some theMethod := by decide +kernel
set_option maxRecDepth 65536 in
theorem w_hears : about1.hears theMethod below0 = true := by decide +kernel
set_option maxRecDepth 65536 in
theorem w_ripe : about1.ripe theMethod args0 below0 = true := by decide +kernel
theorem w_running : about1.status = .running := rfl
set_option maxRecDepth 65536 in
theorem w_room : about1.hasRoom e0.platform room_1 = true :=
  launch0.hasRoom_least _ room_1 (by decide +kernel) (by decide +kernel) (by decide +kernel) (by decide +kernel) (by decide +kernel) (by decide +kernel)
theorem allAtoms_all (ts : List Jvm.Cond) (a : Array Jvm.Value) (st : Jvm.State) : (allAtoms ts).before a st = ts.all (fun c => c.before a st) := by
  induction ts with
  | nil => rfl
  | cons c t ih =>
    show (Jvm.Cond.and c (allAtoms t)).before a st = _
    rw [Jvm.Cond.before_and, ih, List.all_cons]
def words1 : List Jvm.Cond := Jvm.Cond.code x code maxLocals ret :: tables_1
/-- a 'code' word, met by the world's own term for the bytes: nothing is compared byte by byte -/
theorem code_word {y : MethodName} {bytes : ByteArray} {mx : Nat} {rt : Option FieldType} {a : Array Value} {s : State} {m : MethodId} {meth : Method} {c : Code} (h1 : s.methodNamed? y = some m) (h2 : s.vm.method? m = some meth) (h3 : meth.code = some c) (h4 : c.code = bytes)
    (h5 : (c.maxLocals == mx && c.exceptionTable.isEmpty && decide (c.maxStack ≤ mostOperands) && decide (meth.sig.returnType = rt) && !meth.locks && decide (parseMethodDescriptor y.desc = some meth.sig)) = true) : (Jvm.Cond.code y bytes mx rt).before a s = true := by
  simp only [Bool.and_eq_true, beq_iff_eq, Bool.not_eq_true', decide_eq_true_eq] at h5
  obtain ⟨⟨⟨⟨⟨g1, g2⟩, g3⟩, g4⟩, g5⟩, g6⟩ := h5
  simp [Cond.before, Cond.holds, Cond.value, h1, h2, h3, h4, g1, g2, g3, g4, g5, g6]
def isCode : Jvm.Cond → Bool
  | .code _ _ _ _ => true
  | _ => false
theorem all_split {L : List Jvm.Cond} {P : Jvm.Cond → Bool} (h1 : L.all (fun c => isCode c || P c) = true) (h2 : ∀ c ∈ L.filter isCode, P c = true) : L.all P = true := by
  refine List.all_eq_true.mpr fun c hc => ?_
  have h := List.all_eq_true.mp h1 c hc
  rcases Bool.eq_false_or_eq_true (isCode c) with hi | hi
  · exact h2 c (List.mem_filter.mpr ⟨hc, hi⟩)
  · simpa [hi] using h
set_option maxRecDepth 65536 in
theorem w_c0 : (Jvm.Cond.code x code maxLocals ret).before args0 about1 = true := code_word (m := ⟨1, 2⟩) (meth := k1m2) (c := k1c2) (by decide +kernel) rfl rfl rfl (by decide +kernel)
set_option maxRecDepth 65536 in
theorem w_c1 : (Jvm.Cond.code ({ cls := "com/example/triplemesh/triplemesh/Holdings", name := "<init>", desc := "(JJ)V" } : Jvm.MethodName) prog_2_method_1_code (5 : Nat) (Option.none : Option Jvm.ClassFile.FieldType)).before args0 about1 = true := code_word (m := ⟨2, 0⟩) (meth := k2m0) (c := k2c0) (by decide +kernel) rfl rfl rfl (by decide +kernel)
set_option maxRecDepth 65536 in
theorem w_c2 : (Jvm.Cond.code ({ cls := "java/lang/Object", name := "<init>", desc := "()V" } : Jvm.MethodName) object_method_1_code (1 : Nat) (Option.none : Option Jvm.ClassFile.FieldType)).before args0 about1 = true := code_word (m := ⟨0, 0⟩) (meth := k0m0) (c := k0c0) (by decide +kernel) rfl rfl rfl (by decide +kernel)
set_option maxRecDepth 65536 in
theorem w_c3 : (Jvm.Cond.code ({ cls := "java/util/ArrayList", name := "<init>", desc := "()V" } : Jvm.MethodName) jdk_38_method_2_code (1 : Nat) (Option.none : Option Jvm.ClassFile.FieldType)).before args0 about1 = true := code_word (m := ⟨12, 0⟩) (meth := k12m0) (c := k12c0) (by decide +kernel) rfl rfl rfl (by decide +kernel)
set_option maxRecDepth 65536 in
theorem w_c4 : (Jvm.Cond.code ({ cls := "java/util/AbstractList", name := "<init>", desc := "()V" } : Jvm.MethodName) jdk_39_method_1_code (1 : Nat) (Option.none : Option Jvm.ClassFile.FieldType)).before args0 about1 = true := code_word (m := ⟨8, 0⟩) (meth := k8m0) (c := k8c0) (by decide +kernel) rfl rfl rfl (by decide +kernel)
set_option maxRecDepth 65536 in
theorem w_c5 : (Jvm.Cond.code ({ cls := "java/util/AbstractCollection", name := "<init>", desc := "()V" } : Jvm.MethodName) jdk_22_method_1_code (1 : Nat) (Option.none : Option Jvm.ClassFile.FieldType)).before args0 about1 = true := code_word (m := ⟨5, 0⟩) (meth := k5m0) (c := k5c0) (by decide +kernel) rfl rfl rfl (by decide +kernel)
set_option maxRecDepth 65536 in
theorem w_c6 : (Jvm.Cond.code ({ cls := "com/example/triplemesh/triplemesh/Holdings", name := "keepFrom", desc := "(J)V" } : Jvm.MethodName) prog_2_method_8_code (3 : Nat) (Option.none : Option Jvm.ClassFile.FieldType)).before args0 about1 = true := code_word (m := ⟨2, 2⟩) (meth := k2m2) (c := k2c2) (by decide +kernel) rfl rfl rfl (by decide +kernel)
set_option maxRecDepth 65536 in
theorem w_c7 : (Jvm.Cond.code ({ cls := "com/example/triplemesh/triplemesh/Ring", name := "inOpen", desc := "(JJJ)Z" } : Jvm.MethodName) prog_7_method_3_code (6 : Nat) (Option.some Jvm.ClassFile.FieldType.boolean)).before args0 about1 = true := code_word (m := ⟨13, 2⟩) (meth := k13m2) (c := k13c2) (by decide +kernel) rfl rfl rfl (by decide +kernel)
set_option maxRecDepth 65536 in
theorem w_c8 : (Jvm.Cond.code ({ cls := "com/example/triplemesh/triplemesh/Ring", name := "inHalfOpen", desc := "(JJJ)Z" } : Jvm.MethodName) prog_7_method_2_code (6 : Nat) (Option.some Jvm.ClassFile.FieldType.boolean)).before args0 about1 = true := code_word (m := ⟨13, 1⟩) (meth := k13m1) (c := k13c1) (by decide +kernel) rfl rfl rfl (by decide +kernel)
set_option maxRecDepth 65536 in
theorem w_c9 : (Jvm.Cond.code ({ cls := "java/lang/Long", name := "compareUnsigned", desc := "(JJ)I" } : Jvm.MethodName) jdk_35_method_43_code (4 : Nat) (Option.some Jvm.ClassFile.FieldType.int)).before args0 about1 = true := code_word (m := ⟨18, 1⟩) (meth := k18m1) (c := k18c1) (by decide +kernel) rfl rfl rfl (by decide +kernel)
set_option maxRecDepth 65536 in
theorem w_c10 : (Jvm.Cond.code ({ cls := "java/lang/Long", name := "compare", desc := "(JJ)I" } : Jvm.MethodName) jdk_35_method_42_code (4 : Nat) (Option.some Jvm.ClassFile.FieldType.int)).before args0 about1 = true := code_word (m := ⟨18, 0⟩) (meth := k18m0) (c := k18c0) (by decide +kernel) rfl rfl rfl (by decide +kernel)
set_option maxRecDepth 65536 in
theorem w_c11 : (Jvm.Cond.code ({ cls := "com/example/triplemesh/triplemesh/Holdings", name := "copiesFrom", desc := "()J" } : Jvm.MethodName) prog_2_method_5_code (1 : Nat) (Option.some Jvm.ClassFile.FieldType.long)).before args0 about1 = true := code_word (m := ⟨2, 1⟩) (meth := k2m1) (c := k2c1) (by decide +kernel) rfl rfl rfl (by decide +kernel)
set_option maxRecDepth 65536 in
theorem w_c12 : (Jvm.Cond.code ({ cls := "com/example/triplemesh/triplemesh/HoldingsKeepFromPinLaw", name := "expected", desc := "(JJJ)J" } : Jvm.MethodName) method_2_code (10 : Nat) (Option.some Jvm.ClassFile.FieldType.long)).before args0 about1 = true := code_word (m := ⟨1, 1⟩) (meth := k1m1) (c := k1c1) (by decide +kernel) rfl rfl rfl (by decide +kernel)
def codes1 : List Jvm.Cond := [Jvm.Cond.code x code maxLocals ret, Jvm.Cond.code ({ cls := "com/example/triplemesh/triplemesh/Holdings", name := "<init>", desc := "(JJ)V" } : Jvm.MethodName) prog_2_method_1_code (5 : Nat) (Option.none : Option Jvm.ClassFile.FieldType), Jvm.Cond.code ({ cls := "java/lang/Object", name := "<init>", desc := "()V" } : Jvm.MethodName) object_method_1_code (1 : Nat) (Option.none : Option Jvm.ClassFile.FieldType), Jvm.Cond.code ({ cls := "java/util/ArrayList", name := "<init>", desc := "()V" } : Jvm.MethodName) jdk_38_method_2_code (1 : Nat) (Option.none : Option Jvm.ClassFile.FieldType), Jvm.Cond.code ({ cls := "java/util/AbstractList", name := "<init>", desc := "()V" } : Jvm.MethodName) jdk_39_method_1_code (1 : Nat) (Option.none : Option Jvm.ClassFile.FieldType), Jvm.Cond.code ({ cls := "java/util/AbstractCollection", name := "<init>", desc := "()V" } : Jvm.MethodName) jdk_22_method_1_code (1 : Nat) (Option.none : Option Jvm.ClassFile.FieldType), Jvm.Cond.code ({ cls := "com/example/triplemesh/triplemesh/Holdings", name := "keepFrom", desc := "(J)V" } : Jvm.MethodName) prog_2_method_8_code (3 : Nat) (Option.none : Option Jvm.ClassFile.FieldType), Jvm.Cond.code ({ cls := "com/example/triplemesh/triplemesh/Ring", name := "inOpen", desc := "(JJJ)Z" } : Jvm.MethodName) prog_7_method_3_code (6 : Nat) (Option.some Jvm.ClassFile.FieldType.boolean), Jvm.Cond.code ({ cls := "com/example/triplemesh/triplemesh/Ring", name := "inHalfOpen", desc := "(JJJ)Z" } : Jvm.MethodName) prog_7_method_2_code (6 : Nat) (Option.some Jvm.ClassFile.FieldType.boolean), Jvm.Cond.code ({ cls := "java/lang/Long", name := "compareUnsigned", desc := "(JJ)I" } : Jvm.MethodName) jdk_35_method_43_code (4 : Nat) (Option.some Jvm.ClassFile.FieldType.int), Jvm.Cond.code ({ cls := "java/lang/Long", name := "compare", desc := "(JJ)I" } : Jvm.MethodName) jdk_35_method_42_code (4 : Nat) (Option.some Jvm.ClassFile.FieldType.int), Jvm.Cond.code ({ cls := "com/example/triplemesh/triplemesh/Holdings", name := "copiesFrom", desc := "()J" } : Jvm.MethodName) prog_2_method_5_code (1 : Nat) (Option.some Jvm.ClassFile.FieldType.long), Jvm.Cond.code ({ cls := "com/example/triplemesh/triplemesh/HoldingsKeepFromPinLaw", name := "expected", desc := "(JJJ)J" } : Jvm.MethodName) method_2_code (10 : Nat) (Option.some Jvm.ClassFile.FieldType.long)]
set_option maxRecDepth 65536 in
theorem codes_eq : words1.filter isCode = codes1 := rfl
theorem w_codes : ∀ c ∈ words1.filter isCode, c.before args0 about1 = true := by
  rw [codes_eq]
  intro c hc
  simp only [codes1, List.mem_cons, List.not_mem_nil, or_false] at hc
  rcases hc with rfl | rfl | rfl | rfl | rfl | rfl | rfl | rfl | rfl | rfl | rfl | rfl | rfl
  · exact w_c0
  · exact w_c1
  · exact w_c2
  · exact w_c3
  · exact w_c4
  · exact w_c5
  · exact w_c6
  · exact w_c7
  · exact w_c8
  · exact w_c9
  · exact w_c10
  · exact w_c11
  · exact w_c12
set_option maxRecDepth 65536 in
theorem w_t1 : (words1.take 24).all (fun c => isCode c || c.before args0 about1) = true := by decide +kernel
set_option maxRecDepth 65536 in
theorem w_t2 : ((words1.drop 24).take 24).all (fun c => isCode c || c.before args0 about1) = true := by decide +kernel
set_option maxRecDepth 65536 in
theorem w_t3 : ((words1.drop 24).drop 24).all (fun c => isCode c || c.before args0 about1) = true := by decide +kernel
theorem w_tables : (allAtoms (Jvm.Cond.code x code maxLocals ret :: tables_1)).before args0 about1 = true := by
  rw [allAtoms_all]
  show words1.all (fun c => c.before args0 about1) = true
  refine all_split ?_ w_codes
  rw [← List.take_append_drop 24 words1, List.all_append, w_t1, ← List.take_append_drop 24 (words1.drop 24), List.all_append, w_t2, w_t3]
  rfl
set_option maxRecDepth 65536 in
theorem w_rest : rest_1_c.before args0 about1 = true := by decide +kernel
set_option maxRecDepth 65536 in
theorem w_case : (Jvm.Cond.and given_1 narrow_1).before args0 about1 = true := by decide +kernel
theorem w_applies : (headSpec (Jvm.Cond.code x code maxLocals ret :: tables_1) room_1).applies x e0.platform about1 = true :=
  (Spec.applies_iff w_frames).mpr ⟨w_running, w_runnable, w_alone, w_named, w_hears, w_ripe, w_room, w_tables⟩
theorem atStart : AtStart classFile x code maxLocals ret World_1 tables_1 room_1 Calls_1 rest_1 Pre_1 launch0 p0 e0 about1 theMethod args0 below0 :=
  ⟨lists_1, trivial, launch0.admits_env _ _ _, launch0.least_env, fairChoices_fair.cas, fairChoices_fair.clock, w_frames, w_args, w_heap, w_applies, trivial, w_rest, w_case⟩
end start1
theorem witness_1 : WitnessClaimed_1 := ⟨start1.p0, start1.e0, start1.about1, start1.theMethod, start1.args0, start1.below0, start1.atStart⟩
end Jvm.Pilot.@@N@@
