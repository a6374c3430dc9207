import JvmDerived
import JvmDerived.Pilot.@@N@@Statement
import JvmDerived.Pilot.@@N@@Code
set_option linter.unusedVariables false
set_option linter.unusedSimpArgs false
@@BLOCK:HandJ.lean.txt@@
@@BLOCK:HandW.lean.txt@@
@@BLOCK:HandBits.lean.txt@@
@@BLOCK:SymRun.lean.txt@@
@@BLOCK:RowBasics.lean.txt@@
@@BLOCK:Bridge.lean.txt@@
@@BLOCK:SymKit.lean.txt@@
@@BLOCK:SymWays.lean.txt@@
@@BLOCK:NumsL.lean.txt@@
@@BLOCK:Masks.lean.txt@@
namespace Jvm.Pilot.@@N@@
open Jvm Jvm.ClassFile Sem Op Jvm.Sym Jvm.Pilot.@@N@@.Jvm.D

/-! own 1: arguments by their kinds -/
def own_KL : List VKind → List Value → Prop
  | [], [] => True
  | k :: ks, v :: vs => k.ok v = true ∧ own_KL ks vs
  | _, _ => False
def own_Kinds (ks : List VKind) (A : Array Value) : Prop := own_KL ks A.toList
theorem own_KL_get : ∀ {ks : List VKind} {vs : List Value}, own_KL ks vs → ∀ {i : Nat} {k : VKind}, ks[i]? = some k → ∃ v, vs[i]? = some v ∧ k.ok v = true
  | [], [], _, i, k, h => by simp at h
  | k0 :: ks, v0 :: vs, hh, 0, k, h => by
    simp at h; subst h; exact ⟨v0, by simp, hh.1⟩
  | k0 :: ks, v0 :: vs, hh, i + 1, k, h => by
    simp at h; obtain ⟨v, h1, h2⟩ := own_KL_get hh.2 h; exact ⟨v, by simpa using h1, h2⟩
  | [], _ :: _, hh, _, _, _ => hh.elim
  | _ :: _, [], hh, _, _, _ => hh.elim
theorem own_KL_len : ∀ {ks : List VKind} {vs : List Value}, own_KL ks vs → vs.length = ks.length
  | [], [], _ => rfl
  | k0 :: ks, v0 :: vs, hh => by simp [own_KL_len hh.2]
  | [], _ :: _, hh => hh.elim
  | _ :: _, [], hh => hh.elim
theorem own_Kinds.get {ks : List VKind} {A : Array Value} (h : own_Kinds ks A) {i : Nat} {k : VKind} (hk : ks[i]? = some k) : ∃ v, A[i]? = some v ∧ k.ok v = true := by
  obtain ⟨v, h1, h2⟩ := own_KL_get h hk
  exact ⟨v, by rwa [Array.getElem?_toList] at h1, h2⟩
theorem own_Kinds.size {ks : List VKind} {A : Array Value} (h : own_Kinds ks A) : A.size = ks.length := by
  have := own_KL_len h
  simpa using this
theorem own_KL_sorts {A : Array Value} {s : State} : ∀ (ks : List VKind) (i : Nat) (vs : List Value), (∀ j, A[i + j]? = vs[j]?) → vs.length = ks.length → (∀ q ∈ Sym.sorts i ks, q.before A s = true) → own_KL ks vs
  | [], _, [], _, _, _ => trivial
  | [], _, _ :: _, _, h, _ => by simp at h
  | _ :: _, _, [], _, h, _ => by simp at h
  | k :: ks, i, v :: vs, hA, hl, hq => by
    have h0 := hq (isK k (.arg i)) (by simp [Sym.sorts])
    obtain ⟨w, e, ok⟩ := isK_spec h0
    have e0 := hA 0
    simp only [Nat.add_zero, List.getElem?_cons_zero] at e0
    have e1 : A[i]? = some w := e
    rw [e0] at e1
    cases e1
    refine ⟨ok, own_KL_sorts ks (i + 1) vs (fun j => ?_) (by simpa using hl) (fun q h => hq q (by simp [Sym.sorts]; exact Or.inr h))⟩
    have := hA (j + 1)
    rw [List.getElem?_cons_succ] at this
    rw [← this]; congr 1; omega
theorem own_Kinds_of {A : Array Value} {s : State} {ks : List VKind} (hn : A.size = ks.length) (hq : ∀ q ∈ Sym.sorts 0 ks, q.before A s = true) : own_Kinds ks A :=
  own_KL_sorts ks 0 A.toList (fun j => by simp) (by simpa using hn) hq
theorem own_Kinds.sorts {A : Array Value} {s : State} : ∀ {ks : List VKind} {vs : List Value} (i : Nat), (∀ j, A[i + j]? = vs[j]?) → own_KL ks vs → ∀ q ∈ Sym.sorts i ks, q.before A s = true
  | [], [], _, _, _, q, hq => by cases hq
  | [], _ :: _, _, _, hh, _, _ => hh.elim
  | _ :: _, [], _, _, hh, _, _ => hh.elim
  | k :: ks, v :: vs, i, hA, hh, q, hq => by
    have e0 := hA 0
    simp only [Nat.add_zero, List.getElem?_cons_zero] at e0
    rcases List.mem_cons.mp hq with rfl | hq
    · cases k <;> cases v <;> first | (have := hh.1; simp [VKind.ok] at this; done) | simp [isK, Cond.before, Cond.holds, Cond.value, Term.eval, e0]
    · refine own_Kinds.sorts (i + 1) (fun j => ?_) hh.2 q hq
      have := hA (j + 1)
      rw [List.getElem?_cons_succ] at this
      rw [← this]; congr 1; omega
theorem own_int {v : Value} (h : VKind.int.ok v = true) : ∃ a : Int32, v = .int a := by cases v <;> simp [VKind.ok] at h <;> exact ⟨_, rfl⟩
theorem own_long {v : Value} (h : VKind.long.ok v = true) : ∃ a : Int64, v = .long a := by cases v <;> simp [VKind.ok] at h <;> exact ⟨_, rfl⟩
theorem own_k1 {k0 : VKind} {A : Array Value} (h : own_Kinds [k0] A) : ∃ v0, A = #[v0] ∧ k0.ok v0 = true := by
  obtain ⟨L⟩ := A
  match L, h with
  | [v0], h => exact ⟨v0, rfl, h.1⟩
theorem own_k2 {k0 k1 : VKind} {A : Array Value} (h : own_Kinds [k0, k1] A) : ∃ v0 v1, A = #[v0, v1] ∧ k0.ok v0 = true ∧ k1.ok v1 = true := by
  obtain ⟨L⟩ := A
  match L, h with
  | [v0, v1], h => exact ⟨v0, v1, rfl, h.1, h.2.1⟩
theorem own_k3 {k0 k1 k2 : VKind} {A : Array Value} (h : own_Kinds [k0, k1, k2] A) : ∃ v0 v1 v2, A = #[v0, v1, v2] ∧ k0.ok v0 = true ∧ k1.ok v1 = true ∧ k2.ok v2 = true := by
  obtain ⟨L⟩ := A
  match L, h with
  | [v0, v1, v2], h => exact ⟨v0, v1, v2, rfl, h.1, h.2.1, h.2.2.1⟩
theorem own_k4 {k0 k1 k2 k3 : VKind} {A : Array Value} (h : own_Kinds [k0, k1, k2, k3] A) : ∃ v0 v1 v2 v3, A = #[v0, v1, v2, v3] ∧ k0.ok v0 = true ∧ k1.ok v1 = true ∧ k2.ok v2 = true ∧ k3.ok v3 = true := by
  obtain ⟨L⟩ := A
  match L, h with
  | [v0, v1, v2, v3], h => exact ⟨v0, v1, v2, v3, rfl, h.1, h.2.1, h.2.2.1, h.2.2.2.1⟩

theorem own_k5 {k0 k1 k2 k3 k4 : VKind} {A : Array Value} (h : own_Kinds [k0, k1, k2, k3, k4] A) : ∃ v0 v1 v2 v3 v4, A = #[v0, v1, v2, v3, v4] ∧ k0.ok v0 = true ∧ k1.ok v1 = true ∧ k2.ok v2 = true ∧ k3.ok v3 = true ∧ k4.ok v4 = true := by
  obtain ⟨L⟩ := A
  match L, h with
  | [v0, v1, v2, v3, v4], h => exact ⟨v0, v1, v2, v3, v4, rfl, h.1, h.2.1, h.2.2.1, h.2.2.2.1, h.2.2.2.2.1⟩
theorem own_k6 {k0 k1 k2 k3 k4 k5 : VKind} {A : Array Value} (h : own_Kinds [k0, k1, k2, k3, k4, k5] A) : ∃ v0 v1 v2 v3 v4 v5, A = #[v0, v1, v2, v3, v4, v5] ∧ k0.ok v0 = true ∧ k1.ok v1 = true ∧ k2.ok v2 = true ∧ k3.ok v3 = true ∧ k4.ok v4 = true ∧ k5.ok v5 = true := by
  obtain ⟨L⟩ := A
  match L, h with
  | [v0, v1, v2, v3, v4, v5], h => exact ⟨v0, v1, v2, v3, v4, v5, rfl, h.1, h.2.1, h.2.2.1, h.2.2.2.1, h.2.2.2.2.1, h.2.2.2.2.2.1⟩

/-! own 2: a term's kind, read off its shape -/
def own_ty2 : Binary → Option VKind → Option VKind → Option VKind
  | .iand, some .int, some .int => some .int
  | .ior, some .int, some .int => some .int
  | .ixor, some .int, some .int => some .int
  | .ishl, some .int, some .int => some .int
  | .ishr, some .int, some .int => some .int
  | .iushr, some .int, some .int => some .int
  | .ladd, some .long, some .long => some .long
  | .lsub, some .long, some .long => some .long
  | .lmul, some .long, some .long => some .long
  | .land, some .long, some .long => some .long
  | .lor, some .long, some .long => some .long
  | .lxor, some .long, some .long => some .long
  | .lcmp, some .long, some .long => some .int
  | .lshl, some .long, some .int => some .long
  | .lshr, some .long, some .int => some .long
  | .lushr, some .long, some .int => some .long
  | _, _, _ => none
def own_ty1 : Unary → Option VKind → Option VKind
  | .ineg, some .int => some .int
  | .i2b, some .int => some .int
  | .i2c, some .int => some .int
  | .i2s, some .int => some .int
  | .i2l, some .int => some .long
  | .l2i, some .long => some .int
  | .lneg, some .long => some .long
  | _, _ => none
def own_ii : Option VKind → Option VKind → Option VKind
  | some .int, some .int => some .int
  | _, _ => none
def own_ty (ks : List VKind) : Term → Option VKind
  | .arg i => ks[i]?
  | .int _ => some .int
  | .long _ => some .long
  | .add a b => own_ii (own_ty ks a) (own_ty ks b)
  | .sub a b => own_ii (own_ty ks a) (own_ty ks b)
  | .mul a b => own_ii (own_ty ks a) (own_ty ks b)
  | .op2 f a b => own_ty2 f (own_ty ks a) (own_ty ks b)
  | .op1 f a => own_ty1 f (own_ty ks a)
  | .old t => own_ty ks t
  | _ => none
theorem own_ty2_sound {f : Binary} {a b : Option VKind} {k : VKind} (h : own_ty2 f a b = some k) : ∃ ka kb, a = some ka ∧ b = some kb ∧ ∀ x y, ka.ok x = true → kb.ok y = true → ∃ z, f.apply x y = some z ∧ k.ok z = true := by
  unfold own_ty2 at h
  split at h <;> first
    | (cases h; refine ⟨_, _, rfl, rfl, fun x y hx hy => ?_⟩; cases x <;> simp [VKind.ok] at hx <;> cases y <;> simp [VKind.ok] at hy <;> exact ⟨_, rfl, rfl⟩)
    | cases h
theorem own_ty1_sound {f : Unary} {a : Option VKind} {k : VKind} (h : own_ty1 f a = some k) : ∃ ka, a = some ka ∧ ∀ x, ka.ok x = true → ∃ z, f.apply x = some z ∧ k.ok z = true := by
  unfold own_ty1 at h
  split at h <;> first
    | (cases h; refine ⟨_, rfl, fun x hx => ?_⟩; cases x <;> simp [VKind.ok] at hx <;> exact ⟨_, rfl, rfl⟩)
    | cases h
theorem own_ii_sound {a b : Option VKind} {k : VKind} (h : own_ii a b = some k) : k = .int ∧ a = some .int ∧ b = some .int := by
  unfold own_ii at h
  split at h
  · cases h; exact ⟨rfl, rfl, rfl⟩
  · cases h
theorem own_ty_sound {ks : List VKind} {A : Array Value} {s : State} (hA : own_Kinds ks A) : ∀ (t : Term) {k : VKind}, own_ty ks t = some k → ∃ v, t.eval A s none [] s = some v ∧ k.ok v = true
  | .arg i, k, h => hA.get h
  | .int v, k, h => by cases h; exact ⟨_, rfl, rfl⟩
  | .long v, k, h => by cases h; exact ⟨_, rfl, rfl⟩
  | .add a b, k, h => by
    obtain ⟨rfl, ha, hb⟩ := own_ii_sound h
    obtain ⟨x, ex, hx⟩ := own_ty_sound (s := s) hA a ha
    obtain ⟨y, ey, hy⟩ := own_ty_sound (s := s) hA b hb
    obtain ⟨x, rfl⟩ := own_int hx
    obtain ⟨y, rfl⟩ := own_int hy
    exact ⟨.int (x + y), by simp [Term.eval, ex, ey], rfl⟩
  | .sub a b, k, h => by
    obtain ⟨rfl, ha, hb⟩ := own_ii_sound h
    obtain ⟨x, ex, hx⟩ := own_ty_sound (s := s) hA a ha
    obtain ⟨y, ey, hy⟩ := own_ty_sound (s := s) hA b hb
    obtain ⟨x, rfl⟩ := own_int hx
    obtain ⟨y, rfl⟩ := own_int hy
    exact ⟨.int (x - y), by simp [Term.eval, ex, ey], rfl⟩
  | .mul a b, k, h => by
    obtain ⟨rfl, ha, hb⟩ := own_ii_sound h
    obtain ⟨x, ex, hx⟩ := own_ty_sound (s := s) hA a ha
    obtain ⟨y, ey, hy⟩ := own_ty_sound (s := s) hA b hb
    obtain ⟨x, rfl⟩ := own_int hx
    obtain ⟨y, rfl⟩ := own_int hy
    exact ⟨.int (x * y), by simp [Term.eval, ex, ey], rfl⟩
  | .op2 f a b, k, h => by
    obtain ⟨ka, kb, ha, hb, hf⟩ := own_ty2_sound (show own_ty2 f (own_ty ks a) (own_ty ks b) = some k from h)
    obtain ⟨x, ex, hx⟩ := own_ty_sound (s := s) hA a ha
    obtain ⟨y, ey, hy⟩ := own_ty_sound (s := s) hA b hb
    obtain ⟨z, ez, hz⟩ := hf x y hx hy
    exact ⟨z, by simp [Term.eval, ex, ey, ez], hz⟩
  | .op1 f a, k, h => by
    obtain ⟨ka, ha, hf⟩ := own_ty1_sound (show own_ty1 f (own_ty ks a) = some k from h)
    obtain ⟨x, ex, hx⟩ := own_ty_sound (s := s) hA a ha
    obtain ⟨z, ez, hz⟩ := hf x hx
    exact ⟨z, by simp [Term.eval, ex, ez], hz⟩
  | .old t, k, h => by
    obtain ⟨x, ex, hx⟩ := own_ty_sound (s := s) hA t (show own_ty ks t = some k from h)
    exact ⟨x, by simpa [Term.eval] using ex, hx⟩
  | .null, _, h => by cases h
  | .index _, _, h => by cases h
  | .field _ _ _ _, _, h => by cases h
  | .static _ _ _, _, h => by cases h
  | .string _ _, _, h => by cases h
  | .mirror _, _, h => by cases h
  | .length _, _, h => by cases h
  | .elem _ _, _, h => by cases h
  | .div _ _, _, h => by cases h
  | .rem _ _, _, h => by cases h
  | .sum _, _, h => by cases h
  | .result, _, h => by cases h
  | .thrown, _, h => by cases h

/-! own 3: the needs of a walk, paid by one check: each stands under guards that are worth something whatever way they go -/
def own_num (ks : List VKind) (a b : Term) : Bool := (own_ty ks a == some .int && own_ty ks b == some .int) || (own_ty ks a == some .long && own_ty ks b == some .long)
def own_dfn (ks : List VKind) (D : List Cond) : Cond → Bool
  | .not c => own_dfn ks D c
  | .eq a b => D.contains (.eq a b) || own_num ks a b
  | .lt a b => D.contains (.lt a b) || own_num ks a b
  | .le a b => D.contains (.le a b) || own_num ks a b
  | .and a b => own_dfn ks D a && own_dfn ks D b
  | .or a b => own_dfn ks D a && own_dfn ks D b
  | .tt => true
  | _ => false
def own_chk (ks : List VKind) (T D : List Cond) : Cond → Bool
  | .tt => true
  | .and a b => T.contains (.and a b) || (own_chk ks T D a && own_chk ks T D b)
  | .or a b => T.contains (.or a b) || (own_dfn ks D a && own_chk ks T D b)
  | .isInt t => T.contains (.isInt t) || own_ty ks t == some .int
  | .isLong t => T.contains (.isLong t) || own_ty ks t == some .long
  | c => T.contains c
theorem own_num_sound {ks : List VKind} {A : Array Value} {s : State} (hA : own_Kinds ks A) {a b : Term} (h : own_num ks a b = true) :
    (∃ x y : Int32, a.eval A s none [] s = some (.int x) ∧ b.eval A s none [] s = some (.int y)) ∨ (∃ x y : Int64, a.eval A s none [] s = some (.long x) ∧ b.eval A s none [] s = some (.long y)) := by
  simp only [own_num, Bool.or_eq_true, Bool.and_eq_true, beq_iff_eq] at h
  rcases h with ⟨ha, hb⟩ | ⟨ha, hb⟩
  · obtain ⟨v, ev, hv⟩ := own_ty_sound (s := s) hA a ha
    obtain ⟨w, ew, hw⟩ := own_ty_sound (s := s) hA b hb
    obtain ⟨x, rfl⟩ := own_int hv
    obtain ⟨y, rfl⟩ := own_int hw
    exact Or.inl ⟨x, y, ev, ew⟩
  · obtain ⟨v, ev, hv⟩ := own_ty_sound (s := s) hA a ha
    obtain ⟨w, ew, hw⟩ := own_ty_sound (s := s) hA b hb
    obtain ⟨x, rfl⟩ := own_long hv
    obtain ⟨y, rfl⟩ := own_long hw
    exact Or.inr ⟨x, y, ev, ew⟩
theorem own_dfn_sound {ks : List VKind} {D : List Cond} {A : Array Value} {s : State} (hA : own_Kinds ks A) (hD : ∀ c ∈ D, ∃ b, c.value A s none s [] = some b) : ∀ (c : Cond), own_dfn ks D c = true → ∃ b, c.value A s none s [] = some b := by
  intro c
  induction c with
  | tt => intro _; exact ⟨true, rfl⟩
  | not c ih => intro h; obtain ⟨b, e⟩ := ih h; exact ⟨!b, by simp [Cond.value, e]⟩
  | and a b iha ihb =>
    intro h
    simp only [own_dfn, Bool.and_eq_true] at h
    obtain ⟨x, ex⟩ := iha h.1
    obtain ⟨y, ey⟩ := ihb h.2
    cases x
    · exact ⟨false, by simp [Cond.value, ex]⟩
    · exact ⟨y, by simp [Cond.value, ex, ey]⟩
  | or a b iha ihb =>
    intro h
    simp only [own_dfn, Bool.and_eq_true] at h
    obtain ⟨x, ex⟩ := iha h.1
    obtain ⟨y, ey⟩ := ihb h.2
    cases x
    · exact ⟨y, by simp [Cond.value, ex, ey]⟩
    · exact ⟨true, by simp [Cond.value, ex]⟩
  | eq a b =>
    intro h
    simp only [own_dfn, Bool.or_eq_true] at h
    rcases h with h | h
    · exact hD _ (List.contains_iff_mem.mp h)
    · rcases own_num_sound (s := s) hA h with ⟨x, y, e1, e2⟩ | ⟨x, y, e1, e2⟩ <;> simp only [Cond.value, e1, e2] <;> exact ⟨_, rfl⟩
  | lt a b =>
    intro h
    simp only [own_dfn, Bool.or_eq_true] at h
    rcases h with h | h
    · exact hD _ (List.contains_iff_mem.mp h)
    · rcases own_num_sound (s := s) hA h with ⟨x, y, e1, e2⟩ | ⟨x, y, e1, e2⟩ <;> simp only [Cond.value, e1, e2] <;> exact ⟨_, rfl⟩
  | le a b =>
    intro h
    simp only [own_dfn, Bool.or_eq_true] at h
    rcases h with h | h
    · exact hD _ (List.contains_iff_mem.mp h)
    · rcases own_num_sound (s := s) hA h with ⟨x, y, e1, e2⟩ | ⟨x, y, e1, e2⟩ <;> simp only [Cond.value, e1, e2] <;> exact ⟨_, rfl⟩
  | _ => intro h; simp [own_dfn] at h
theorem own_chk_sound {ks : List VKind} {T D : List Cond} {A : Array Value} {s : State} (hA : own_Kinds ks A) (hT : ∀ c ∈ T, c.value A s none s [] = some true) (hD : ∀ c ∈ D, ∃ b, c.value A s none s [] = some b) :
    ∀ (c : Cond), own_chk ks T D c = true → c.value A s none s [] = some true := by
  intro c
  induction c with
  | tt => intro _; rfl
  | and a b iha ihb =>
    intro h
    simp only [own_chk, Bool.or_eq_true, Bool.and_eq_true] at h
    rcases h with h | h
    · exact hT _ (List.contains_iff_mem.mp h)
    · simp [Cond.value, iha h.1, ihb h.2]
  | or a b iha ihb =>
    intro h
    simp only [own_chk, Bool.or_eq_true, Bool.and_eq_true] at h
    rcases h with h | h
    · exact hT _ (List.contains_iff_mem.mp h)
    · obtain ⟨x, ex⟩ := own_dfn_sound (s := s) hA hD a h.1
      cases x
      · simp [Cond.value, ex, ihb h.2]
      · simp [Cond.value, ex]
  | isInt t =>
    intro h
    simp only [own_chk, Bool.or_eq_true, beq_iff_eq] at h
    rcases h with h | h
    · exact hT _ (List.contains_iff_mem.mp h)
    · obtain ⟨v, ev, hv⟩ := own_ty_sound (s := s) hA t h
      obtain ⟨x, rfl⟩ := own_int hv
      simp [Cond.value, ev]
  | isLong t =>
    intro h
    simp only [own_chk, Bool.or_eq_true, beq_iff_eq] at h
    rcases h with h | h
    · exact hT _ (List.contains_iff_mem.mp h)
    · obtain ⟨v, ev, hv⟩ := own_ty_sound (s := s) hA t h
      obtain ⟨x, rfl⟩ := own_long hv
      simp [Cond.value, ev]
  | _ =>
    intro h
    simp only [own_chk] at h
    exact hT _ (List.contains_iff_mem.mp h)

/-! own 4: what a guard is worth, as a proposition on plain integers; a tree followed by it -/
def own_Is (A : Array Value) (s : State) (G : Cond) (P : Prop) : Prop := (P → G.value A s none s [] = some true) ∧ (¬ P → G.value A s none s [] = some false)
section
variable {A : Array Value} {s : State} {G : Cond} {P : Prop} {ta tb : Term} {a b : STree} {w : Value} {X Y : Int}
theorem own_Is.dfn (h : own_Is A s G P) : ∃ b, G.value A s none s [] = some b := by
  by_cases p : P
  · exact ⟨_, h.1 p⟩
  · exact ⟨_, h.2 p⟩
theorem own_fork (h : own_Is A s G P) (ha : P → Kit.valueOf A s a = some w) (hb : ¬ P → Kit.valueOf A s b = some w) : Kit.valueOf A s (.fork G a b) = some w := by
  by_cases p : P
  · simp only [Kit.valueOf, h.1 p]; exact ha p
  · simp only [Kit.valueOf, h.2 p]; exact hb p
theorem own_not (h : own_Is A s G P) : own_Is A s (.not G) (¬ P) :=
  ⟨fun p => by simp [Cond.value, h.2 p], fun p => by simp [Cond.value, h.1 (Classical.not_not.mp p)]⟩
theorem own_of_decide {Q : Prop} [Decidable Q] (h : G.value A s none s [] = some (decide Q)) (hq : Q ↔ P) : own_Is A s G P :=
  ⟨fun p => by rw [h, decide_eq_true (hq.mpr p)], fun p => by rw [h, decide_eq_false (fun q => p (hq.mp q))]⟩
theorem own_lt_i {x y : Int32} (ha : ta.eval A s none [] s = some (.int x)) (hb : tb.eval A s none [] s = some (.int y)) (hX : x.toInt = X) (hY : y.toInt = Y) : own_Is A s (.lt ta tb) (X < Y) :=
  own_of_decide (Q := x < y) (by simp only [Cond.value, ha, hb]) (by rw [Int32.lt_iff_toInt_lt, hX, hY])
theorem own_le_i {x y : Int32} (ha : ta.eval A s none [] s = some (.int x)) (hb : tb.eval A s none [] s = some (.int y)) (hX : x.toInt = X) (hY : y.toInt = Y) : own_Is A s (.le ta tb) (X ≤ Y) :=
  own_of_decide (Q := x ≤ y) (by simp only [Cond.value, ha, hb]) (by rw [Int32.le_iff_toInt_le, hX, hY])
theorem own_eq_i {x y : Int32} (ha : ta.eval A s none [] s = some (.int x)) (hb : tb.eval A s none [] s = some (.int y)) (hX : x.toInt = X) (hY : y.toInt = Y) : own_Is A s (.eq ta tb) (X = Y) :=
  own_of_decide (Q := x = y) (by simp only [Cond.value, ha, hb]) (by rw [← Int32.toInt_inj, hX, hY])
theorem own_lcmp_eval {x y : Int64} (ha : ta.eval A s none [] s = some (.long x)) (hb : tb.eval A s none [] s = some (.long y)) : (Term.old (.op2 .lcmp ta tb)).eval A s none [] s = some (.int (if x > y then 1 else if x == y then 0 else -1)) := by
  simp only [Term.eval, ha, hb]; rfl
theorem own_lcmp_cases (x y : Int64) : (y.toInt < x.toInt ∧ (if x > y then (1 : Int32) else if x == y then 0 else -1) = 1) ∨ (x.toInt = y.toInt ∧ (if x > y then (1 : Int32) else if x == y then 0 else -1) = 0) ∨ (x.toInt < y.toInt ∧ (if x > y then (1 : Int32) else if x == y then 0 else -1) = -1) := by
  by_cases h : y < x
  · exact Or.inl ⟨Int64.lt_iff_toInt_lt.mp h, by simp [h]⟩
  · by_cases h2 : x = y
    · exact Or.inr (Or.inl ⟨by rw [h2], by subst h2; simp [Int64.lt_irrefl]⟩)
    · refine Or.inr (Or.inr ⟨?_, by simp [h, h2]⟩)
      rw [Int64.lt_iff_toInt_lt] at h
      rw [← Int64.toInt_inj] at h2
      omega
theorem own_lcmp_lt {x y : Int64} (ha : ta.eval A s none [] s = some (.long x)) (hb : tb.eval A s none [] s = some (.long y)) (hX : x.toInt = X) (hY : y.toInt = Y) : own_Is A s (.lt (.old (.op2 .lcmp ta tb)) (.int 0)) (X < Y) :=
  own_of_decide (Cond.lt_ints (own_lcmp_eval ha hb) rfl) (by subst hX hY; rcases own_lcmp_cases x y with ⟨h, e⟩ | ⟨h, e⟩ | ⟨h, e⟩ <;> rw [e] <;> simp <;> omega)
theorem own_lcmp_gt {x y : Int64} (ha : ta.eval A s none [] s = some (.long x)) (hb : tb.eval A s none [] s = some (.long y)) (hX : x.toInt = X) (hY : y.toInt = Y) : own_Is A s (.lt (.int 0) (.old (.op2 .lcmp ta tb))) (Y < X) :=
  own_of_decide (Cond.lt_ints rfl (own_lcmp_eval ha hb)) (by subst hX hY; rcases own_lcmp_cases x y with ⟨h, e⟩ | ⟨h, e⟩ | ⟨h, e⟩ <;> rw [e] <;> simp <;> omega)
theorem own_lcmp_le {x y : Int64} (ha : ta.eval A s none [] s = some (.long x)) (hb : tb.eval A s none [] s = some (.long y)) (hX : x.toInt = X) (hY : y.toInt = Y) : own_Is A s (.le (.old (.op2 .lcmp ta tb)) (.int 0)) (X ≤ Y) :=
  own_of_decide (Cond.le_ints (own_lcmp_eval ha hb) rfl) (by subst hX hY; rcases own_lcmp_cases x y with ⟨h, e⟩ | ⟨h, e⟩ | ⟨h, e⟩ <;> rw [e] <;> simp <;> omega)
theorem own_lcmp_ge {x y : Int64} (ha : ta.eval A s none [] s = some (.long x)) (hb : tb.eval A s none [] s = some (.long y)) (hX : x.toInt = X) (hY : y.toInt = Y) : own_Is A s (.le (.int 0) (.old (.op2 .lcmp ta tb))) (Y ≤ X) :=
  own_of_decide (Cond.le_ints rfl (own_lcmp_eval ha hb)) (by subst hX hY; rcases own_lcmp_cases x y with ⟨h, e⟩ | ⟨h, e⟩ | ⟨h, e⟩ <;> rw [e] <;> simp <;> omega)
theorem own_lcmp_eq {x y : Int64} (ha : ta.eval A s none [] s = some (.long x)) (hb : tb.eval A s none [] s = some (.long y)) (hX : x.toInt = X) (hY : y.toInt = Y) : own_Is A s (.eq (.old (.op2 .lcmp ta tb)) (.int 0)) (X = Y) :=
  own_of_decide (Cond.eq_ints (own_lcmp_eval ha hb) rfl) (by subst hX hY; rcases own_lcmp_cases x y with ⟨h, e⟩ | ⟨h, e⟩ | ⟨h, e⟩ <;> rw [e] <;> simp <;> omega)
end

theorem own_walk_eq {α β γ : Type} {w : Option (α × β × γ)} (h : w.isSome = true) {t : α} (e : (w.get h).1 = t) : w = some (t, (w.get h).2.1, (w.get h).2.2) := by
  subst e; exact (Option.some_get h).symm
/-! own 5: a callee's contract with a promise of one's own; the law's -/
def own_says (T : Term) : Cond := .and .returned (.eq .result (.old T))
theorem own_says_after {T : Term} {A : Array Value} {s E : State} {w : Value} (hc : T.closed = true) (hw : T.eval A s none [] s = some w) (hk : VKind.int.ok w = true ∨ VKind.long.ok w = true) : (own_says T).after A s (.returned (some w)) E = true := by
  have h1 : (Term.old T).eval A s (some (.returned (some w))) [] E = some w := by
    show T.eval A s (some (.returned (some w))) [] s = some w
    rw [Term.eval_closed (some (.returned (some w))) [] T s hc]; exact hw
  have h2 : Term.result.eval A s (some (.returned (some w))) [] E = some w := rfl
  rcases hk with hk | hk
  · obtain ⟨x, rfl⟩ := own_int hk
    simp [own_says, Cond.after, Cond.holds, Cond.value, h1, h2]
  · obtain ⟨x, rfl⟩ := own_long hk
    simp [own_says, Cond.after, Cond.holds, Cond.value, h1, h2]
theorem own_callee {l : Launch} {y : MethodName} {code : ByteArray} {maxL : Nat} {ret : Option FieldType} {ks : List VKind} {I : Info} {n : Nat} {t : STree} {tabs needs extra : List Cond} {post : Cond}
    (hx : plainName y.cls = true) (hown : I.own = y.cls) (hr : I.ret = ret)
    (hw : walkTo I code [] n true (entry ks maxL) = some (t, tabs, needs)) (hcalls : CallsOk l I maxL I.room)
    (hn : (needs.all (own_chk ks (.code y code maxL ret :: (tabs ++ extra)) [])) = true) (hp : Kit.pureVal t = true)
    (hv : ∀ A s, own_Kinds ks A → ∃ w, Kit.valueOf A s t = some w ∧ ∀ E, post.after A s (.returned (some w)) E = true) :
    MeetsLoose l y (specOf y code maxL ret ks post (tabs ++ extra) [] I.room) := by
  refine loops_meets (I := I) (ks0 := ks) (cuts := []) hx hown hr rfl rfl rfl (fun args s h => ?_) hw (fun _ => none) (fun _ _ _ _ _ => False) (fun _ _ _ => 0) (fun args s h => ?_) (fun args s _ h ks hks => by cases hks) hcalls
  · exact conj_before h _ List.mem_cons_self
  · have hall := conj_before h
    have hsz : args.size = ks.length := by
      have := hall (.count ks.length) (by simp)
      simpa [Cond.before, Cond.holds, Cond.value] using this
    have hq : ∀ q ∈ Sym.sorts 0 ks, q.before args s = true := fun q hq => hall q (by simp [hq])
    have hK := own_Kinds_of hsz hq
    have hT : ∀ c ∈ (Cond.code y code maxL ret :: (tabs ++ extra)), c.value args s none s [] = some true := fun c hc => by
      have : c.before args s = true := hall c (by
        rcases List.mem_cons.mp hc with rfl | hc
        · exact List.mem_cons_self
        · rcases List.mem_append.mp hc with hc | hc <;> simp [hc])
      simpa [Cond.before, Cond.holds] using this
    obtain ⟨w, hw1, hw2⟩ := hv args s hK
    refine ⟨hsz, hq, fun q h => hall q (by simp [h]), fun q hq => ?_, Kit.vc_of_value (w₀ := w) (fun E => hw2 E) t hp hw1⟩
    have := own_chk_sound (s := s) hK hT (fun c hc => by cases hc) q (List.all_eq_true.mp hn q hq)
    simpa [Cond.before, Cond.holds] using this
theorem own_law {l : Launch} {ks : List VKind} {I : Info} {n : Nat} {t : STree} {tabs needs : List Cond} (hx : plainName x.cls = true) (hown : I.own = x.cls) (hr : I.ret = ret)
    (hw : walkTo I code [] n true (entry ks maxLocals) = some (t, tabs, needs)) (hcalls : CallsOk l I maxLocals room_1)
    (hg : flatC (Cond.and given_1 narrow_1) = .count ks.length :: (Sym.sorts 0 ks ++ [.tt]))
    (ht : (tabs.all fun q => (Cond.code x code maxLocals ret :: tables_1).contains q) = true)
    {Tx D : List Cond} (hTx : ∀ A s, own_Kinds ks A → (∀ c ∈ Tx, c.value A s none s [] = some true) ∧ ∀ c ∈ D, ∃ b, c.value A s none s [] = some b)
    (hn : (needs.all (own_chk ks (Tx ++ (Cond.code x code maxLocals ret :: tables_1)) D)) = true) (hp : Kit.pureVal t = true)
    (hv : ∀ A s, own_Kinds ks A → Kit.valueOf A s t = some (.int 1)) :
    MeetsLoose l x (armSpec x code maxLocals ret tables_1 room_1 .tt (.and given_1 narrow_1) (.and limb_1_1 limb_1_2) frame_1_writes frame_1_arrays frame_1_statics) := by
  refine loops_meets (I := I) (ks0 := ks) (cuts := []) hx hown hr rfl rfl rfl (fun args s h => ?_) hw (fun _ => none) (fun _ _ _ _ _ => False) (fun _ _ _ => 0) (fun args s h => ?_) (fun args s _ h ks hks => by cases hks) hcalls
  · simp only [armSpec, allAtoms, List.foldr_cons, Cond.before_and, Bool.and_eq_true] at h; exact h.1.1
  · have hts : (allAtoms (Cond.code x code maxLocals ret :: tables_1)).before args s = true := by simp only [armSpec, Cond.before_and, Bool.and_eq_true] at h; exact h.1
    have hK0 : (Cond.and given_1 narrow_1).before args s = true := by simp only [armSpec, Cond.before_and, Bool.and_eq_true] at h ⊢; exact h.2.2
    have hall := flat_of_before _ hK0
    rw [hg] at hall
    have hsz : args.size = ks.length := by
      have := hall (.count ks.length) (by simp)
      simpa [Cond.before, Cond.holds, Cond.value] using this
    have hq : ∀ q ∈ Sym.sorts 0 ks, q.before args s = true := fun q hq => hall q (by simp [hq])
    have hK := own_Kinds_of hsz hq
    have hT : ∀ c ∈ (Tx ++ (Cond.code x code maxLocals ret :: tables_1)), c.value args s none s [] = some true := fun c hc => by
      rcases List.mem_append.mp hc with hc | hc
      · exact (hTx args s hK).1 c hc
      · exact value_of_before (atoms_spec hts c hc)
    refine ⟨hsz, hq, tabs_of_sub hts ht, fun q hq => before_of_value (own_chk_sound (s := s) hK hT (hTx args s hK).2 q (List.all_eq_true.mp hn q hq)), Kit.vc_of_value (w₀ := .int 1) (fun E => ?_) t hp (hv args s hK)⟩
    simp [armSpec, limb_1_1, limb_1_2, Cond.after, Cond.holds, Cond.value, Term.eval]
theorem own_main {l0 : True} {limb : Cond} (hM : ∀ l, MeetsLoose l x (armSpec x code maxLocals ret tables_1 room_1 .tt (.and given_1 narrow_1) (.and limb_1_1 limb_1_2) frame_1_writes frame_1_arrays frame_1_statics)) (h0 : ∀ args s o t, (Cond.and limb_1_1 limb_1_2).after args s o t = true → limb.after args s o t = true) :
    ArmFor flags0 classFile x code maxLocals ret World_1 tables_1 room_1 Calls_1 rest_1 Pre_1 (fun tb e a s o t => postC limb tb e a s o t ∧ Framed s o t (fieldLocs frame_1_writes a s ++ arrayLocs frame_1_arrays a s ++ staticLocs frame_1_statics s) 0 0) :=
  armFor_of_meets0 (fun l => (hM l).meets) h0
/-! own 6: a boolean as a term of ints -/
def own_TB (A : Array Value) (s : State) (T : Term) (P : Prop) : Prop := (P → T.eval A s none [] s = some (.int 1)) ∧ (¬ P → T.eval A s none [] s = some (.int 0))
def own_tltL (a b : Term) : Term := .op2 .iushr (.op2 .lcmp a b) (.int 31)
def own_tlt (a b : Term) : Term := own_tltL (.op1 .i2l a) (.op1 .i2l b)
def own_tnot (a : Term) : Term := .sub (.int 1) a
def own_tand (a b : Term) : Term := .op2 .iand a b
def own_tor (a b : Term) : Term := .op2 .ior a b
section
variable {A : Array Value} {s : State} {P Q : Prop} {ta tb T U : Term} {X Y : Int}
theorem own_tb_ltL {x y : Int64} (ha : ta.eval A s none [] s = some (.long x)) (hb : tb.eval A s none [] s = some (.long y)) (hX : x.toInt = X) (hY : y.toInt = Y) : own_TB A s (own_tltL ta tb) (X < Y) := by
  have h : (own_tltL ta tb).eval A s none [] s = some (.int (((if x > y then (1 : Int32) else if x == y then 0 else -1).toUInt32 >>> ((31 : Int32) &&& 31).toUInt32).toInt32)) := by
    simp only [own_tltL, Term.eval, ha, hb]; rfl
  subst hX hY
  rcases own_lcmp_cases x y with ⟨h1, e⟩ | ⟨h1, e⟩ | ⟨h1, e⟩ <;> rw [e] at h <;> refine ⟨fun p => ?_, fun p => ?_⟩ <;> first | omega | exact h
theorem own_tb_lt {x y : Int32} (ha : ta.eval A s none [] s = some (.int x)) (hb : tb.eval A s none [] s = some (.int y)) (hX : x.toInt = X) (hY : y.toInt = Y) : own_TB A s (own_tlt ta tb) (X < Y) :=
  own_tb_ltL (x := x.toInt64) (y := y.toInt64) (by simp only [Term.eval, ha]; rfl) (by simp only [Term.eval, hb]; rfl) ((Int32.toInt_toInt64 x).trans hX) ((Int32.toInt_toInt64 y).trans hY)
theorem own_tb_not (h : own_TB A s T P) : own_TB A s (own_tnot T) (¬ P) :=
  ⟨fun p => by simp only [own_tnot, Term.eval, h.2 p]; rfl, fun p => by simp only [own_tnot, Term.eval, h.1 (Classical.not_not.mp p)]; rfl⟩
theorem own_tb_and (h : own_TB A s T P) (k : own_TB A s U Q) : own_TB A s (own_tand T U) (P ∧ Q) := by
  by_cases p : P <;> by_cases q : Q
  · exact ⟨fun _ => by simp only [own_tand, Term.eval, h.1 p, k.1 q]; rfl, fun z => absurd ⟨p, q⟩ z⟩
  · exact ⟨fun z => absurd z.2 q, fun _ => by simp only [own_tand, Term.eval, h.1 p, k.2 q]; rfl⟩
  · exact ⟨fun z => absurd z.1 p, fun _ => by simp only [own_tand, Term.eval, h.2 p, k.1 q]; rfl⟩
  · exact ⟨fun z => absurd z.1 p, fun _ => by simp only [own_tand, Term.eval, h.2 p, k.2 q]; rfl⟩
theorem own_tb_or (h : own_TB A s T P) (k : own_TB A s U Q) : own_TB A s (own_tor T U) (P ∨ Q) := by
  by_cases p : P <;> by_cases q : Q
  · exact ⟨fun _ => by simp only [own_tor, Term.eval, h.1 p, k.1 q]; rfl, fun z => absurd (Or.inl p) z⟩
  · exact ⟨fun _ => by simp only [own_tor, Term.eval, h.1 p, k.2 q]; rfl, fun z => absurd (Or.inl p) z⟩
  · exact ⟨fun _ => by simp only [own_tor, Term.eval, h.2 p, k.1 q]; rfl, fun z => absurd (Or.inr q) z⟩
  · exact ⟨fun z => (z.elim (absurd · p) (absurd · q)), fun _ => by simp only [own_tor, Term.eval, h.2 p, k.2 q]; rfl⟩
theorem own_tb_iff (h : own_TB A s T P) (e : P ↔ Q) : own_TB A s T Q := ⟨fun q => h.1 (e.mpr q), fun q => h.2 (fun p => q (e.mp p))⟩
theorem own_tb_some (h : own_TB A s T P) : ∃ x : Int32, T.eval A s none [] s = some (.int x) := by
  by_cases p : P
  · exact ⟨1, h.1 p⟩
  · exact ⟨0, h.2 p⟩
theorem own_eq_tb1 (h : own_TB A s T P) (hb : tb.eval A s none [] s = some (.int 1)) : own_Is A s (.eq (.old T) tb) P :=
  ⟨fun p => by rw [Cond.eq_ints (show (Term.old T).eval A s none [] s = _ from h.1 p) hb]; rfl, fun p => by rw [Cond.eq_ints (show (Term.old T).eval A s none [] s = _ from h.2 p) hb]; rfl⟩
theorem own_eq_tb0 (h : own_TB A s T P) (hb : tb.eval A s none [] s = some (.int 0)) : own_Is A s (.eq (.old T) tb) (¬ P) :=
  ⟨fun p => by rw [Cond.eq_ints (show (Term.old T).eval A s none [] s = _ from h.2 p) hb]; rfl, fun p => by rw [Cond.eq_ints (show (Term.old T).eval A s none [] s = _ from h.1 (Classical.not_not.mp p)) hb]; rfl⟩
theorem own_eq_self (h : own_TB A s T P) : own_Is A s (.eq (.old T) (.old T)) True := by
  obtain ⟨x, e⟩ := own_tb_some h
  exact ⟨fun _ => by rw [Cond.eq_ints (show (Term.old T).eval A s none [] s = _ from e) (show (Term.old T).eval A s none [] s = _ from e)]; simp, fun p => absurd trivial p⟩
/-- a callee that answers P by 1 or 0, its promise the term T -/
theorem own_bool {t : STree} (h : own_TB A s T P) (hc : T.closed = true) (h1 : P → Kit.valueOf A s t = some (.int 1)) (h0 : ¬ P → Kit.valueOf A s t = some (.int 0)) : ∃ w, Kit.valueOf A s t = some w ∧ ∀ E, (own_says T).after A s (.returned (some w)) E = true := by
  by_cases p : P
  · exact ⟨_, h1 p, fun E => own_says_after hc (h.1 p) (Or.inl rfl)⟩
  · exact ⟨_, h0 p, fun E => own_says_after hc (h.2 p) (Or.inl rfl)⟩
end
end Jvm.Pilot.@@N@@
namespace Jvm.Pilot.@@N@@
open Jvm Jvm.ClassFile Sem Op Jvm.Sym Jvm.Pilot.@@N@@.Jvm.D
end Jvm.Pilot.@@N@@
namespace Jvm.Pilot.@@N@@
open Jvm Jvm.ClassFile Sem Op Lib Jvm.Free Jvm.Stand Jvm.LawKit Jvm.RoadKit Bundle Jvm.Pilot.@@N@@.Jvm.D
/-! own 8: the goal at a frame, one step -/
abbrev own_G (tb : Tables) (e : Env) (below : List Frame) (F : State → Outcome → Prop) (U : State) : Prop := ∃ s₂ o, Steps tb e below U s₂ ∧ F s₂ o
theorem own_via {tb : Tables} {e : Env} {below : List Frame} {F : State → Outcome → Prop} {U U' : State} (h : ∀ t, Steps tb e below U' t → Steps tb e below U t) (k : own_G tb e below F U') : own_G tb e below F U := by
  obtain ⟨s₂, o, h1, h2⟩ := k
  exact ⟨s₂, o, h s₂ h1, h2⟩
/-! own 9: a contract of the walk by evaluation, spent in a walk by hand -/
theorem own_conj {args : Array Value} {s : State} : ∀ (L : List Jvm.Cond), (∀ c ∈ L, c.before args s = true) → (Jvm.Sym.conj L).before args s = true
  | [], _ => rfl
  | c :: L, h => by
    show (Jvm.Cond.and c (Jvm.Sym.conj L)).before args s = true
    rw [Cond.before_and, h c List.mem_cons_self, own_conj L fun d hd => h d (List.mem_cons_of_mem _ hd)]; rfl
theorem own_tabs (T : List Jvm.Cond) {a0 : Array Value} {Z : State} (hw : ∀ d ∈ tables_1, d.before a0 Z = true) (h : (T.all fun d => tables_1.contains d) = true) : ∀ d ∈ T, d.before a0 Z = true :=
  fun d hd => hw d (List.contains_iff_mem.mp (List.all_eq_true.mp h d hd))
theorem own_free {l : Launch} {y : MethodName} {bytes : ByteArray} {maxL : Nat} {ret : Option FieldType} {ks : List Jvm.Sym.VKind} {post : Jvm.Cond} {TT : List Jvm.Cond} {room : Room} (hM : MeetsLoose l y (Jvm.Sym.specOf y bytes maxL ret ks post TT [] room))
    {Z : State} {a0 : Array Value} (hT : ∀ d ∈ TT, d.before a0 Z = true) (hTo : (TT.all fun d => d.onTables && d.keepsFace) = true) (hrc : room.cells = 0) (hrs : room.slots = 0) {as' : Array Value} (hK : own_Kinds ks as') {h : Heap} {Qv : Option Value → Prop}
    (hQ : ∀ U o U', post.after as' U o U' = true → ∃ v, o = .returned v ∧ Qv v) :
    MetFree l y (head1 [Jvm.Cond.code y bytes maxL ret] room) (fun a U => a = as' ∧ Z.Warmed39 U.vm ∧ U.heap = h) (fun _ _ _ _ _ => True) (fun _ U o U' => ∃ v L, o = .returned v ∧ (Qv v ∧ L = [] ∧ U'.heap = h) ∧ FrameEnd U o U' L room.cells room.slots) := by
  intro p e ha hc hk s m args below hf happ hP _
  obtain ⟨rfl, hZ, hh⟩ := hP
  obtain ⟨a1, a2, a3, a4, a5, a6, a7, a8⟩ := (Spec.appliesLoose_iff hf).mp happ
  have hcode : (Jvm.Cond.code y bytes maxL ret).before args s = true := by
    have : (Jvm.Cond.and (Jvm.Cond.code y bytes maxL ret) .tt).before args s = true := a8
    rw [Cond.before_and, Bool.and_eq_true] at this; exact this.1
  have hpre : (Jvm.Sym.specOf y bytes maxL ret ks post TT [] room).pre.before args s = true := by
    refine own_conj _ fun c hc => ?_
    rcases List.mem_cons.mp hc with rfl | hc
    · exact hcode
    · rcases List.mem_cons.mp hc with rfl | hc
      · have := hK.size
        simp [Cond.before, Cond.holds, Cond.value, this]
      · simp only [List.append_nil, List.mem_append] at hc
        rcases hc with hc | hc
        · exact own_Kinds.sorts 0 (fun j => by simp) hK c hc
        · exact mv hZ (hT c hc) (List.all_eq_true.mp hTo c hc)
  obtain ⟨n, o, h1, h2, h3, h4⟩ := hM p e ha hc hk s m args below hf ((Spec.appliesLoose_iff hf).mpr ⟨a1, a2, a3, a4, a5, a6, a7, hpre⟩)
  obtain ⟨hpo, hfr⟩ := h4
  obtain ⟨v, hv, hq⟩ := hQ _ _ _ hpo
  have hfr' : s.WarmedH (stepsAlone p.tables e n s).vm ∧ s.sameBut ({ stepsAlone p.tables e n s with vm := s.vm } : State) [] := by
    simpa [Spec.frees, fieldLocs, arrayLocs, staticLocs, Jvm.Sym.specOf] using hfr
  have hFE : FrameEnd s o (stepsAlone p.tables e n s) [] 0 0 := ⟨⟨v, hv⟩, hfr'.1, hfr'.2.sameButNew 0 0⟩
  refine ⟨n, o, h1, h2, h3, v, [], hv, ⟨hq, rfl, (heap_of_end hFE).trans hh⟩, ?_⟩
  rw [hrc, hrs]; exact hFE
section
variable {p : Program} {l : Launch} {e : Env} {R : Room} {s : State} {m : MethodId} {args : Array Value} {below : List Frame} {meth : Method} {c : Code} {T : State} {locs : List Loc} {cells slots : Nat} {Z : State} {a0 : Array Value} {h : Heap}
theorem own_pure {W : Nat} (X : Stand p l e R s m args below meth c T locs cells slots) (hx : p.tables.exec = Jvm.exec) (hZ : Z.Warmed39 s.vm) {own : String} {index : Nat} {y : MethodName} {bytes : ByteArray} {maxL : Nat} {ret : Option FieldType} {ks : List Jvm.Sym.VKind} {post : Jvm.Cond} {TT : List Jvm.Cond} {room : Room}
    (hown : s.vm.findClass own = some m.cls) (w1 : (Jvm.Cond.methodLink own index y).before a0 Z = true) (w2 : (Jvm.Cond.static y).before a0 Z = true) (w3 : (Jvm.Cond.initialized y.cls).before a0 Z = true) (w4 : (Jvm.Cond.code y bytes maxL ret).before a0 Z = true) (hy : y.cls ≠ "java/lang/invoke/MethodHandle" ∧ y.cls ≠ "java/lang/invoke/VarHandle")
    (hM : MeetsLoose l y (Jvm.Sym.specOf y bytes maxL ret ks post TT [] room)) (hT : ∀ d ∈ TT, d.before a0 Z = true) (hTo : (TT.all fun d => d.onTables && d.keepsFace) = true) (hrc : room.cells = 0) (hrs : room.slots = 0) (eT : T.heap = h)
    {g : JFrame} (hg : g.method = m) (hsize : g.locals.size = c.maxLocals) {argsL rest : List Value} (hlen : ∀ sig, parseMethodDescriptor y.desc = some sig → argsL.length = sig.parameters.length)
    (hstack : g.stack = argsL.reverse ++ rest) (hW : 2 * g.monitorRoom + (rest.map fun v => v.category).sum ≤ W) (hd : decode c.code g.pc = .ok (.invokestatic index, 3)) (hK : own_Kinds ks argsL.toArray) {Qv : Option Value → Prop}
    (hQ : ∀ U o U', post.after argsL.toArray U o U' = true → ∃ v, o = .returned v ∧ Qv v) (hf : room.frames + 1 ≤ R.frames) (hl : W + (maxL + 11) + room.locals ≤ R.locals) (hc : cells ≤ R.cells) (hs : slots ≤ R.slots) :
    ∃ (v : Option Value) (T' : State), Stand p l e R s m args below meth c T' locs cells slots ∧ T'.heap = h ∧ Qv v ∧
      ∀ target, Steps p.tables e below (T'.setTop { g with pc := g.pc + 3, stack := v.toList ++ rest }) target → Steps p.tables e below (T.setTop g) target := by
  obtain ⟨v, _, ⟨T4, L4, k4, n4⟩, -, X4, ⟨Lc4, hQ4, l4, y4, z4⟩, st4⟩ := Jvm.LawKit.callS X hx (y := y) hown (mvT hZ w1) (mvT hZ w2) (mvT hZ w3) (mvT hZ w4) hy
    (backOf (W := W) (Q := fun v h' L => Qv v ∧ L = [] ∧ h' = h) (own_free hM hT hTo hrc hrs hK (h := h) hQ) hZ w4 w3 hf hl) (g := g) hg hsize (argsL := argsL) (rest := rest) hlen hstack hW hd (fun _ _ => ⟨rfl, eT, by rw [hrc]; exact hc, by rw [hrs]; exact hs⟩)
  dsimp only [Pt.U, Pt.locs, Pt.cells, Pt.slots] at X4 l4 y4 z4 st4 hQ4
  obtain ⟨hq, rfl, hh⟩ := hQ4
  rw [hrc] at y4
  rw [hrs] at z4
  simp only [List.append_nil, Nat.add_zero] at l4 y4 z4
  subst l4 y4 z4
  exact ⟨v, T4, X4, hh, hq, st4⟩
end
/-! own 10: what a contract's promise says of the value that comes back; joins -/
theorem own_ints (zs : List Int32) (i : Nat) : ∃ z : Int32, (zs.map Value.int).getD i (.int (0 : Int32)) = .int z := by
  induction zs generalizing i with
  | nil => exact ⟨0, rfl⟩
  | cons a zs ih =>
    cases i with
    | zero => exact ⟨a, rfl⟩
    | succ i => exact ih i
theorem own_inb {j z : Int32} (n : Int) (hz : z.toInt = n) (h0 : 0 ≤ j.toInt) (h1 : j.toInt < n) : ¬ j < 0 ∧ j < z := by
  rw [Int32.lt_iff_toInt_lt, Int32.lt_iff_toInt_lt, hz, show (0 : Int32).toInt = 0 from rfl]; omega
theorem own_says_get {T : Term} {A : Array Value} {U U' : State} {o : Outcome} (hc : T.closed = true) (h : (own_says T).after A U o U' = true) : ∃ w, o = .returned (some w) ∧ T.eval A U none [] U = some w := by
  simp only [own_says, Cond.after_and, Bool.and_eq_true] at h
  obtain ⟨y, e1, e2⟩ := Cond.eq_one (show (Jvm.Cond.eq .result (.old T)).holds A U (some o) U' [] = true from h.2)
  cases o with
  | threw a => simp [Term.eval] at e1
  | returned v =>
    have : v = some y := by simpa [Term.eval] using e1
    subst this
    refine ⟨y, rfl, ?_⟩
    have e3 : T.eval A U (some (.returned (some y))) [] U = some y := e2
    rw [Term.eval_closed (some (.returned (some y))) [] T U hc] at e3
    exact e3
theorem own_says_int {n : Int32} {A : Array Value} {U U' : State} {o : Outcome} (h : (own_says (.int n)).after A U o U' = true) : ∃ v, o = .returned v ∧ v = some (.int n) := by
  obtain ⟨w, h1, h2⟩ := own_says_get (T := .int n) rfl h
  cases h2
  exact ⟨_, h1, rfl⟩
theorem own_says_bool {T : Term} {A : Array Value} {P : Prop} [Decidable P] {U U' : State} {o : Outcome} (hc : T.closed = true) (hT : own_TB A U T P) (h : (own_says T).after A U o U' = true) : ∃ v, o = .returned v ∧ v = some (.int (if P then 1 else 0)) := by
  obtain ⟨w, h1, h2⟩ := own_says_get hc h
  refine ⟨_, h1, ?_⟩
  by_cases p : P
  · rw [hT.1 p] at h2; cases h2; simp [p]
  · rw [hT.2 p] at h2; cases h2; simp [p]
theorem own_join {α : Type} {tb : Tables} {e : Env} {below : List Frame} {F : State → Outcome → Prop} {U0 : State} (P : α → Prop) (U : α → State) (h : ∀ F', (∀ a, P a → own_G tb e below F' (U a)) → own_G tb e below F' U0) (k : ∀ a, P a → own_G tb e below F (U a)) : own_G tb e below F U0 := h F k
end Jvm.Pilot.@@N@@
namespace Jvm.Pilot.@@N@@
open Jvm Jvm.ClassFile Sem Op Lib Jvm.Free Jvm.Stand Jvm.LawKit Jvm.RoadKit Bundle Jvm.Pilot.@@N@@.Jvm.D
theorem pd_0 : parseMethodDescriptor "(JJ)J" = some ⟨[.long, .long], some .long⟩ := by decide +kernel
theorem pd_1 : parseMethodDescriptor "(JI)V" = some ⟨[.long, .int], none⟩ := by decide +kernel
theorem pd_2 : parseMethodDescriptor "()J" = some ⟨[], some .long⟩ := by decide +kernel
theorem pd_3 : parseMethodDescriptor "(J)Z" = some ⟨[.long], some .boolean⟩ := by decide +kernel
theorem d9_0 : decode jdk_29_method_66_code 0 = .ok (.lload_n 0, 1) := by decide +kernel
theorem d9_1 : decode jdk_29_method_66_code 1 = .ok (.lload_n 2, 1) := by decide +kernel
theorem d9_2 : decode jdk_29_method_66_code 2 = .ok (.lcmp, 1) := by decide +kernel
theorem d9_3 : decode jdk_29_method_66_code 3 = .ok (.ifCond .lt 7, 3) := by decide +kernel
theorem d9_6 : decode jdk_29_method_66_code 6 = .ok (.lload_n 0, 1) := by decide +kernel
theorem d9_7 : decode jdk_29_method_66_code 7 = .ok (.goto 4, 3) := by decide +kernel
theorem d9_10 : decode jdk_29_method_66_code 10 = .ok (.lload_n 2, 1) := by decide +kernel
theorem d9_11 : decode jdk_29_method_66_code 11 = .ok (.lreturn, 1) := by decide +kernel
theorem ef_9 (m : MethodId) (q1 : Int64) (q2 : Int64) : entryFrame m #[(.long q1), (.long q2)] 4 = (mkF m 0 #[.val (.long q1), .second, .val (.long q2), .second] []) := by first | (simp [entryFrame, mkF, argsToLocals, Value.category]; done) | rfl
def Q9 (Z : State) (q1 : Int64) (q2 : Int64) (h0 : Heap) (n0 : Nat) (v : Option Value) (h : Heap) (L : List Loc) : Prop := ∃ r : Int64, v = some (.long r) ∧ Fr n0 L ∧ h = h0
set_option maxRecDepth 65536 in
set_option maxHeartbeats 40000000 in
theorem rm9 (l : Launch) (Z : State) (a0 : Array Value) (hw : ∀ d ∈ tables_1, d.before a0 Z = true) (ws : List Jvm.Cond) (q1 : Int64) (q2 : Int64) (h0 : Heap) (n0 : Nat) (Z0 : n0 ≤ h0.size) :
    MetFree l (⟨"java/lang/Math", "max", "(JJ)J"⟩ : MethodName) (head1 (Jvm.Cond.code (⟨"java/lang/Math", "max", "(JJ)J"⟩ : MethodName) jdk_29_method_66_code 4 (some .long) :: ws) ({ frames := 0, cells := 0, slots := 0, locals := 0 } : Room)) (fun as' U => as' = #[(.long q1), (.long q2)] ∧ Z.Warmed39 U.vm ∧ U.heap = h0) (fun _ _ _ _ _ => True) (fun _ U o U' => ∃ v L, o = .returned v ∧ Q9 Z q1 q2 h0 n0 v U'.heap L ∧ FrameEnd U o U' L ({ frames := 0, cells := 0, slots := 0, locals := 0 } : Room).cells ({ frames := 0, cells := 0, slots := 0, locals := 0 } : Room).slots) := by
  refine MetFree.of_bodySF (Jvm.Free.JP.mathPlain rfl (by decide +kernel)) hisR ?_
  intro p e s m args below meth c s₁ Bd hml0 hP hK
  obtain ⟨rfl, hZ, hh⟩ := hP
  have hx := Bd.exec
  have hby := Bd.bytes
  have hml : c.maxLocals = 4 := hml0
  have hown : s.vm.findClass "java/lang/Math" = some m.cls := findClass_of_methodNamed Bd.named
  have hnm := (name_of_methodNamed Bd.named Bd.method).1
  have X0 : Stand p l e ({ frames := 0, cells := 0, slots := 0, locals := 0 } : Room) s m #[(.long q1), (.long q2)] below meth c s₁ [] 0 0 := Stand.of_body Bd
  have e0 : s₁.heap = h0 := by rw [← hh, Bd.state]; rfl
  have N0 := Fr.nil n0
  refine own_via (fun t k => castTop (ef_9 m q1 q2) k) ?_
  show own_G _ _ _ _ (s₁.setTop (mkF m 0 #[.val (.long q1), .second, .val (.long q2), .second] []))
  refine own_via (fun _ k => XS.lloadN X0.here hx rfl (hb hby d9_0) rfl k) ?_
  show own_G _ _ _ _ (s₁.setTop (mkF m 1 #[.val (.long q1), .second, .val (.long q2), .second] [(.long q1)]))
  refine own_via (fun _ k => XS.lloadN X0.here hx rfl (hb hby d9_1) rfl k) ?_
  show own_G _ _ _ _ (s₁.setTop (mkF m 2 #[.val (.long q1), .second, .val (.long q2), .second] [(.long q2), (.long q1)]))
  refine own_via (fun _ k => XS.lcmp X0.here hx rfl (hb hby d9_2) rfl k) ?_
  show own_G _ _ _ _ (s₁.setTop (mkF m 3 #[.val (.long q1), .second, .val (.long q2), .second] [(.int (lcmpW q1 q2))]))
  by_cases hc : q1 < q2
  · refine own_via (fun _ k => XS.ifYes X0.here hx rfl (pc0 := 3) (pc' := 10) rfl (hb hby d9_3) rfl ((if0 _ _).trans (tlt ((lw_lt _ _).mpr hc)).1) (by decide) (by decide) k) ?_
    show own_G _ _ _ _ (s₁.setTop (mkF m 10 #[.val (.long q1), .second, .val (.long q2), .second] []))
    refine own_via (fun _ k => XS.lloadN X0.here hx rfl (hb hby d9_10) rfl k) ?_
    show own_G _ _ _ _ (s₁.setTop (mkF m 11 #[.val (.long q1), .second, .val (.long q2), .second] [(.long q2)]))
    obtain ⟨fs, hr, hrun, hended, hW, hsame⟩ := X0.leave (v := some (.long q2)) (fun h => by rw [Bd.returns] at h; cases h)
    refine ⟨_, _, ?_, hrun, hended, _, _, rfl, ?_, ⟨_, rfl⟩, hW, hsame.mono (by decide) (by decide)⟩
    · jvm_step X0.here [X0.here.top, hx, (hb hby d9_11), X0.method', Bd.returns, narrow]
      first | (intro acts; rw [hr _ acts rfl rfl rfl]) | rw [hr _ _ rfl rfl rfl]
      exact Steps.refl _
    · show Q9 Z q1 q2 h0 n0 _ s₁.heap _
      rw [e0]
      exact ⟨_, rfl, N0, rfl⟩
  · refine own_via (fun _ k => XS.ifNo X0.here hx rfl (hb hby d9_3) rfl ((if0 _ _).trans (flt (fun z => hc ((lw_lt _ _).mp z))).1) k) ?_
    show own_G _ _ _ _ (s₁.setTop (mkF m 6 #[.val (.long q1), .second, .val (.long q2), .second] []))
    refine own_via (fun _ k => XS.lloadN X0.here hx rfl (hb hby d9_6) rfl k) ?_
    show own_G _ _ _ _ (s₁.setTop (mkF m 7 #[.val (.long q1), .second, .val (.long q2), .second] [(.long q1)]))
    refine own_via (fun _ k => XS.goto X0.here hx rfl (pc0 := 7) (pc' := 11) rfl (hb hby d9_7) (by decide) (by decide) k) ?_
    show own_G _ _ _ _ (s₁.setTop (mkF m 11 #[.val (.long q1), .second, .val (.long q2), .second] [(.long q1)]))
    obtain ⟨fs, hr, hrun, hended, hW, hsame⟩ := X0.leave (v := some (.long q1)) (fun h => by rw [Bd.returns] at h; cases h)
    refine ⟨_, _, ?_, hrun, hended, _, _, rfl, ?_, ⟨_, rfl⟩, hW, hsame.mono (by decide) (by decide)⟩
    · jvm_step X0.here [X0.here.top, hx, (hb hby d9_11), X0.method', Bd.returns, narrow]
      first | (intro acts; rw [hr _ acts rfl rfl rfl]) | rw [hr _ _ rfl rfl rfl]
      exact Steps.refl _
    · show Q9 Z q1 q2 h0 n0 _ s₁.heap _
      rw [e0]
      exact ⟨_, rfl, N0, rfl⟩
theorem d1_0 : decode prog_76_method_1_code 0 = .ok (.aload_n 0, 1) := by decide +kernel
theorem d1_1 : decode prog_76_method_1_code 1 = .ok (.invokespecial 1, 3) := by decide +kernel
theorem d1_4 : decode prog_76_method_1_code 4 = .ok (.aload_n 0, 1) := by decide +kernel
theorem d1_5 : decode prog_76_method_1_code 5 = .ok (.lload_n 1, 1) := by decide +kernel
theorem d1_6 : decode prog_76_method_1_code 6 = .ok (.putfield 7, 3) := by decide +kernel
theorem d1_9 : decode prog_76_method_1_code 9 = .ok (.aload_n 0, 1) := by decide +kernel
theorem d1_10 : decode prog_76_method_1_code 10 = .ok (.ldc2_w 13, 3) := by decide +kernel
theorem d1_13 : decode prog_76_method_1_code 13 = .ok (.lload_n 1, 1) := by decide +kernel
theorem d1_14 : decode prog_76_method_1_code 14 = .ok (.iload_n 3, 1) := by decide +kernel
theorem d1_15 : decode prog_76_method_1_code 15 = .ok (.i2l, 1) := by decide +kernel
theorem d1_16 : decode prog_76_method_1_code 16 = .ok (.lmul, 1) := by decide +kernel
theorem d1_17 : decode prog_76_method_1_code 17 = .ok (.invokestatic 15, 3) := by decide +kernel
theorem d1_20 : decode prog_76_method_1_code 20 = .ok (.putfield 21, 3) := by decide +kernel
theorem d1_23 : decode prog_76_method_1_code 23 = .ok (.return_, 1) := by decide +kernel
theorem pn_1 : plainName "com/example/waning_versions/waningversions/service/WorkBudget" = true := by first | (simp [plainName, overriddenIn]; done) | decide +kernel
theorem ef_1 (m : MethodId) (a : Addr) (q1 : Int64) (p1 : Int32) : entryFrame m #[(.ref a), (.long q1), (.int p1)] 4 = (mkF m 0 #[.val (.ref a), .val (.long q1), .second, .val (.int p1)] []) := by first | (simp [entryFrame, mkF, argsToLocals, Value.category]; done) | rfl
def Q1 (Z : State) (a : Addr) (q1 : Int64) (p1 : Int32) (h0 : Heap) (n0 : Nat) (v : Option Value) (h : Heap) (L : List Loc) : Prop := v = none ∧ Fr n0 L ∧ Keep h0 h [a] ∧ Exa Z h a "com/example/waning_versions/waningversions/service/WorkBudget" ∧ Fld Z h a "com/example/waning_versions/waningversions/service/WorkBudget" "spent" "J" (.long 0) ∧ ∃ lim : Int64, Fld Z h a "com/example/waning_versions/waningversions/service/WorkBudget" "limit" "J" (.long lim)
set_option maxRecDepth 65536 in
set_option maxHeartbeats 40000000 in
theorem rm1 (l : Launch) (Z : State) (a0 : Array Value) (hw : ∀ d ∈ tables_1, d.before a0 Z = true) (ws : List Jvm.Cond) (a : Addr) (q1 : Int64) (p1 : Int32) (h0 : Heap) (n0 : Nat) (Z0 : n0 ≤ h0.size) (E_a : Exa Z h0 a "com/example/waning_versions/waningversions/service/WorkBudget") (F_a_size : Fld Z h0 a "com/example/waning_versions/waningversions/service/WorkBudget" "size" "J" (.long 0)) (F_a_limit : Fld Z h0 a "com/example/waning_versions/waningversions/service/WorkBudget" "limit" "J" (.long 0)) (F_a_spent : Fld Z h0 a "com/example/waning_versions/waningversions/service/WorkBudget" "spent" "J" (.long 0)) (g_a : n0 ≤ a) :
    MetFree l (⟨"com/example/waning_versions/waningversions/service/WorkBudget", "<init>", "(JI)V"⟩ : MethodName) (head1 (Jvm.Cond.code (⟨"com/example/waning_versions/waningversions/service/WorkBudget", "<init>", "(JI)V"⟩ : MethodName) prog_76_method_1_code 4 none :: ws) ({ frames := 1, cells := 0, slots := 0, locals := 40 } : Room)) (fun as' U => as' = #[(.ref a), (.long q1), (.int p1)] ∧ Z.Warmed39 U.vm ∧ U.heap = h0) (fun _ _ _ _ _ => True) (fun _ U o U' => ∃ v L, o = .returned v ∧ Q1 Z a q1 p1 h0 n0 v U'.heap L ∧ FrameEnd U o U' L ({ frames := 1, cells := 0, slots := 0, locals := 40 } : Room).cells ({ frames := 1, cells := 0, slots := 0, locals := 40 } : Room).slots) := by
  refine MetFree.of_bodySF (plainFor_of_name pn_1) hisR ?_
  intro p e s m args below meth c s₁ Bd hml0 hP hK
  obtain ⟨rfl, hZ, hh⟩ := hP
  have hx := Bd.exec
  have hby := Bd.bytes
  have hml : c.maxLocals = 4 := hml0
  have hown : s.vm.findClass "com/example/waning_versions/waningversions/service/WorkBudget" = some m.cls := findClass_of_methodNamed Bd.named
  have hnm := (name_of_methodNamed Bd.named Bd.method).1
  have X0 : Stand p l e ({ frames := 1, cells := 0, slots := 0, locals := 40 } : Room) s m #[(.ref a), (.long q1), (.int p1)] below meth c s₁ [] 0 0 := Stand.of_body Bd
  have e0 : s₁.heap = h0 := by rw [← hh, Bd.state]; rfl
  have N0 := Fr.nil n0
  have K : Keep h0 h0 [a] := Keep.refl _ _
  refine own_via (fun t k => castTop (ef_1 m a q1 p1) k) ?_
  show own_G _ _ _ _ (s₁.setTop (mkF m 0 #[.val (.ref a), .val (.long q1), .second, .val (.int p1)] []))
  refine own_via (fun _ k => XS.aloadN X0.here hx rfl (hb hby d1_0) rfl rfl k) ?_
  show own_G _ _ _ _ (s₁.setTop (mkF m 1 #[.val (.ref a), .val (.long q1), .second, .val (.int p1)] [(.ref a)]))
  obtain ⟨T1, X1, e1, st1⟩ := initO X0 hx hZ hown (hw _ (List.mem_of_getElem? (i := 6) rfl)) (hw _ (List.mem_of_getElem? (i := 7) rfl)) (hw _ (List.mem_of_getElem? (i := 8) rfl)) e0 (g := (mkF m 1 #[.val (.ref a), .val (.long q1), .second, .val (.int p1)] [(.ref a)])) rfl (by rw [hml]; rfl) rfl (hb hby d1_1) (by decide) (W := 0) (by show 2 * 0 + _ ≤ _; exact Nat.le_of_eq rfl) (by decide)
  refine own_via st1 ?_
  show own_G _ _ _ _ (T1.setTop (mkF m 4 #[.val (.ref a), .val (.long q1), .second, .val (.int p1)] []))
  refine own_via (fun _ k => XS.aloadN X1.here hx rfl (hb hby d1_4) rfl rfl k) ?_
  show own_G _ _ _ _ (T1.setTop (mkF m 5 #[.val (.ref a), .val (.long q1), .second, .val (.int p1)] [(.ref a)]))
  refine own_via (fun _ k => XS.lloadN X1.here hx rfl (hb hby d1_5) rfl k) ?_
  show own_G _ _ _ _ (T1.setTop (mkF m 6 #[.val (.ref a), .val (.long q1), .second, .val (.int p1)] [(.long q1), (.ref a)]))
  obtain ⟨T2, h2, X2, e2, W2, st2⟩ := putF X1 hx hZ hown (host := "") (Or.inl (hw _ (List.mem_of_getElem? (i := 9) rfl))) Via.refl e1 F_a_size E_a (Or.inr ⟨(hw _ (List.mem_of_getElem? (i := 10) rfl)), rfl, hnm⟩) (hw _ (List.mem_of_getElem? (i := 1) rfl)) (ty := .long) (by decide) rfl rfl (g := (mkF m 6 #[.val (.ref a), .val (.long q1), .second, .val (.int p1)] [(.long q1), (.ref a)])) rfl rfl (hb hby d1_6)
  have F_a_size := F_a_size.same W2
  have F_a_limit := F_a_limit.other W2 (Or.inr (slot_ne (Or.inr (hw _ (List.mem_of_getElem? (i := 17) rfl))) (Or.inr (hw _ (List.mem_of_getElem? (i := 10) rfl))) (by decide) (t := .long) (t' := .long) (by decide) (by decide)))
  have F_a_spent := F_a_spent.other W2 (Or.inr (slot_ne (Or.inl (hw _ (List.mem_of_getElem? (i := 29) rfl))) (Or.inr (hw _ (List.mem_of_getElem? (i := 10) rfl))) (by decide) (t := .long) (t' := .long) (by decide) (by decide)))
  have E_a := E_a.wr W2
  have Z0 := Nat.le_trans Z0 (Keep.of_wr W2).1
  have K := K.wr W2 (Or.inl (by simp))
  have N2 := Fr.snoc X2 N0 g_a
  refine own_via st2 ?_
  show own_G _ _ _ _ (T2.setTop (mkF m 9 #[.val (.ref a), .val (.long q1), .second, .val (.int p1)] []))
  refine own_via (fun _ k => XS.aloadN X2.here hx rfl (hb hby d1_9) rfl rfl k) ?_
  show own_G _ _ _ _ (T2.setTop (mkF m 10 #[.val (.ref a), .val (.long q1), .second, .val (.int p1)] [(.ref a)]))
  refine own_via (fun _ k => X2.ldc2Long hx hown (mvT hZ (hw _ (List.mem_of_getElem? (i := 11) rfl))) (g := (mkF m 10 #[.val (.ref a), .val (.long q1), .second, .val (.int p1)] [(.ref a)])) rfl (hb hby d1_10) _ k) ?_
  show own_G _ _ _ _ (T2.setTop (mkF m 13 #[.val (.ref a), .val (.long q1), .second, .val (.int p1)] [(.long (1048576 : Int64)), (.ref a)]))
  refine own_via (fun _ k => XS.lloadN X2.here hx rfl (hb hby d1_13) rfl k) ?_
  show own_G _ _ _ _ (T2.setTop (mkF m 14 #[.val (.ref a), .val (.long q1), .second, .val (.int p1)] [(.long q1), (.long (1048576 : Int64)), (.ref a)]))
  refine own_via (fun _ k => XS.iloadN X2.here hx rfl (hb hby d1_14) rfl k) ?_
  show own_G _ _ _ _ (T2.setTop (mkF m 15 #[.val (.ref a), .val (.long q1), .second, .val (.int p1)] [(.int p1), (.long q1), (.long (1048576 : Int64)), (.ref a)]))
  refine own_via (fun _ k => XS.i2l X2.here hx rfl (hb hby d1_15) rfl k) ?_
  show own_G _ _ _ _ (T2.setTop (mkF m 16 #[.val (.ref a), .val (.long q1), .second, .val (.int p1)] [(.long (p1.toInt64)), (.long q1), (.long (1048576 : Int64)), (.ref a)]))
  refine own_via (fun _ k => XS.lmul X2.here hx rfl (hb hby d1_16) rfl k) ?_
  show own_G _ _ _ _ (T2.setTop (mkF m 17 #[.val (.ref a), .val (.long q1), .second, .val (.int p1)] [(.long (q1 * (p1.toInt64))), (.long (1048576 : Int64)), (.ref a)]))
  obtain ⟨_, _, ⟨T3, L3, k3, n3⟩, -, X3, ⟨Lc3, hQ3, l3, y3, z3⟩, st3⟩ := Jvm.LawKit.callS X2 hx (y := (⟨"java/lang/Math", "max", "(JJ)J"⟩ : MethodName)) hown (mvT hZ (hw _ (List.mem_of_getElem? (i := 12) rfl))) (mvT hZ (hw _ (List.mem_of_getElem? (i := 13) rfl))) (mvT hZ (hw _ (List.mem_of_getElem? (i := 14) rfl))) (mvT hZ (hw _ (List.mem_of_getElem? (i := 15) rfl))) (by decide) (backOf (W := 1) (rm9 l Z a0 hw [] (1048576 : Int64) (q1 * (p1.toInt64)) h2 n0 Z0) hZ (hw _ (List.mem_of_getElem? (i := 15) rfl)) (hw _ (List.mem_of_getElem? (i := 14) rfl)) (by decide) (by decide)) (g := (mkF m 17 #[.val (.ref a), .val (.long q1), .second, .val (.int p1)] [(.long (q1 * (p1.toInt64))), (.long (1048576 : Int64)), (.ref a)])) rfl (by rw [hml]; rfl) (argsL := [(.long (1048576 : Int64)), (.long (q1 * (p1.toInt64)))]) (rest := [(.ref a)]) (lenOf pd_0 rfl) rfl (by show 2 * 0 + _ ≤ _; exact Nat.le_of_eq rfl) (hb hby d1_17) (fun _ _ => ⟨rfl, e2, Nat.le_of_ble_eq_true rfl, Nat.le_of_ble_eq_true rfl⟩)
  dsimp only [Pt.U, Pt.locs, Pt.cells, Pt.slots] at X3 l3 y3 z3 st3 hQ3
  subst l3 y3 z3
  obtain ⟨lim, rfl, N3q, e3⟩ := hQ3
  have N3 := Fr.app N2 N3q
  refine own_via st3 ?_
  show own_G _ _ _ _ (T3.setTop (mkF m 20 #[.val (.ref a), .val (.long q1), .second, .val (.int p1)] [(.long lim), (.ref a)]))
  obtain ⟨T4, h4, X4, e4, W4, st4⟩ := putF X3 hx hZ hown (host := "") (Or.inl (hw _ (List.mem_of_getElem? (i := 16) rfl))) Via.refl e3 F_a_limit E_a (Or.inr ⟨(hw _ (List.mem_of_getElem? (i := 17) rfl)), rfl, hnm⟩) (hw _ (List.mem_of_getElem? (i := 1) rfl)) (ty := .long) (by decide) rfl rfl (g := (mkF m 20 #[.val (.ref a), .val (.long q1), .second, .val (.int p1)] [(.long lim), (.ref a)])) rfl rfl (hb hby d1_20)
  have F_a_limit := F_a_limit.same W4
  have F_a_size := F_a_size.other W4 (Or.inr (slot_ne (Or.inr (hw _ (List.mem_of_getElem? (i := 10) rfl))) (Or.inr (hw _ (List.mem_of_getElem? (i := 17) rfl))) (by decide) (t := .long) (t' := .long) (by decide) (by decide)))
  have F_a_spent := F_a_spent.other W4 (Or.inr (slot_ne (Or.inl (hw _ (List.mem_of_getElem? (i := 29) rfl))) (Or.inr (hw _ (List.mem_of_getElem? (i := 17) rfl))) (by decide) (t := .long) (t' := .long) (by decide) (by decide)))
  have E_a := E_a.wr W4
  have Z0 := Nat.le_trans Z0 (Keep.of_wr W4).1
  have K := K.wr W4 (Or.inl (by simp))
  have N4 := Fr.snoc X4 N3 g_a
  refine own_via st4 ?_
  show own_G _ _ _ _ (T4.setTop (mkF m 23 #[.val (.ref a), .val (.long q1), .second, .val (.int p1)] []))
  obtain ⟨fs, hr, hrun, hended, hW, hsame⟩ := X4.leave (v := none) (fun _ => rfl)
  refine ⟨_, _, ?_, hrun, hended, _, _, rfl, ?_, ⟨_, rfl⟩, hW, hsame.mono (by decide) (by decide)⟩
  · exact X4.returnOut hx Bd.returns (hb hby d1_23) hr
  · show Q1 Z a q1 p1 h0 n0 _ T4.heap _
    rw [e4]
    exact ⟨rfl, N4, K, E_a, F_a_spent, lim, F_a_limit⟩
theorem d3_0 : decode prog_76_method_3_code 0 = .ok (.aload_n 0, 1) := by decide +kernel
theorem d3_1 : decode prog_76_method_3_code 1 = .ok (.getfield 21, 3) := by decide +kernel
theorem d3_4 : decode prog_76_method_3_code 4 = .ok (.lreturn, 1) := by decide +kernel
theorem pn_3 : plainName "com/example/waning_versions/waningversions/service/WorkBudget" = true := by first | (simp [plainName, overriddenIn]; done) | decide +kernel
theorem ef_3 (m : MethodId) (a : Addr) : entryFrame m #[(.ref a)] 1 = (mkF m 0 #[.val (.ref a)] []) := by first | (simp [entryFrame, mkF, argsToLocals, Value.category]; done) | rfl
def Q3 (Z : State) (a : Addr) (q1 : Int64) (h0 : Heap) (n0 : Nat) (v : Option Value) (h : Heap) (L : List Loc) : Prop := v = some (.long q1) ∧ Fr n0 L ∧ h = h0
set_option maxRecDepth 65536 in
set_option maxHeartbeats 40000000 in
theorem rm3 (l : Launch) (Z : State) (a0 : Array Value) (hw : ∀ d ∈ tables_1, d.before a0 Z = true) (ws : List Jvm.Cond) (a : Addr) (q1 : Int64) (h0 : Heap) (n0 : Nat) (Z0 : n0 ≤ h0.size) (F_a_limit : Fld Z h0 a "com/example/waning_versions/waningversions/service/WorkBudget" "limit" "J" (.long q1)) :
    MetFree l (⟨"com/example/waning_versions/waningversions/service/WorkBudget", "limit", "()J"⟩ : MethodName) (head1 (Jvm.Cond.code (⟨"com/example/waning_versions/waningversions/service/WorkBudget", "limit", "()J"⟩ : MethodName) prog_76_method_3_code 1 (some .long) :: ws) ({ frames := 0, cells := 0, slots := 0, locals := 0 } : Room)) (fun as' U => as' = #[(.ref a)] ∧ Z.Warmed39 U.vm ∧ U.heap = h0) (fun _ _ _ _ _ => True) (fun _ U o U' => ∃ v L, o = .returned v ∧ Q3 Z a q1 h0 n0 v U'.heap L ∧ FrameEnd U o U' L ({ frames := 0, cells := 0, slots := 0, locals := 0 } : Room).cells ({ frames := 0, cells := 0, slots := 0, locals := 0 } : Room).slots) := by
  refine MetFree.of_bodySF (plainFor_of_name pn_3) hisR ?_
  intro p e s m args below meth c s₁ Bd hml0 hP hK
  obtain ⟨rfl, hZ, hh⟩ := hP
  have hx := Bd.exec
  have hby := Bd.bytes
  have hml : c.maxLocals = 1 := hml0
  have hown : s.vm.findClass "com/example/waning_versions/waningversions/service/WorkBudget" = some m.cls := findClass_of_methodNamed Bd.named
  have hnm := (name_of_methodNamed Bd.named Bd.method).1
  have X0 : Stand p l e ({ frames := 0, cells := 0, slots := 0, locals := 0 } : Room) s m #[(.ref a)] below meth c s₁ [] 0 0 := Stand.of_body Bd
  have e0 : s₁.heap = h0 := by rw [← hh, Bd.state]; rfl
  have N0 := Fr.nil n0
  refine own_via (fun t k => castTop (ef_3 m a) k) ?_
  show own_G _ _ _ _ (s₁.setTop (mkF m 0 #[.val (.ref a)] []))
  refine own_via (fun _ k => XS.aloadN X0.here hx rfl (hb hby d3_0) rfl rfl k) ?_
  show own_G _ _ _ _ (s₁.setTop (mkF m 1 #[.val (.ref a)] [(.ref a)]))
  obtain ⟨T5, X5, e5, st5⟩ := getF X0 hx hZ hown (host := "") (Or.inl (hw _ (List.mem_of_getElem? (i := 16) rfl))) Via.refl e0 F_a_limit (g := (mkF m 1 #[.val (.ref a)] [(.ref a)])) rfl rfl (hb hby d3_1)
  refine own_via st5 ?_
  show own_G _ _ _ _ (T5.setTop (mkF m 4 #[.val (.ref a)] [(.long q1)]))
  obtain ⟨fs, hr, hrun, hended, hW, hsame⟩ := X5.leave (v := some (.long q1)) (fun h => by rw [Bd.returns] at h; cases h)
  refine ⟨_, _, ?_, hrun, hended, _, _, rfl, ?_, ⟨_, rfl⟩, hW, hsame.mono (by decide) (by decide)⟩
  · jvm_step X5.here [X5.here.top, hx, (hb hby d3_4), X5.method', Bd.returns, narrow]
    first | (intro acts; rw [hr _ acts rfl rfl rfl]) | rw [hr _ _ rfl rfl rfl]
    exact Steps.refl _
  · show Q3 Z a q1 h0 n0 _ T5.heap _
    rw [e5]
    exact ⟨rfl, N0, rfl⟩
theorem d4_0 : decode prog_76_method_4_code 0 = .ok (.aload_n 0, 1) := by decide +kernel
theorem d4_1 : decode prog_76_method_4_code 1 = .ok (.getfield 24, 3) := by decide +kernel
theorem d4_4 : decode prog_76_method_4_code 4 = .ok (.lreturn, 1) := by decide +kernel
theorem pn_4 : plainName "com/example/waning_versions/waningversions/service/WorkBudget" = true := by first | (simp [plainName, overriddenIn]; done) | decide +kernel
theorem ef_4 (m : MethodId) (a : Addr) : entryFrame m #[(.ref a)] 1 = (mkF m 0 #[.val (.ref a)] []) := by first | (simp [entryFrame, mkF, argsToLocals, Value.category]; done) | rfl
def Q4 (Z : State) (a : Addr) (q1 : Int64) (h0 : Heap) (n0 : Nat) (v : Option Value) (h : Heap) (L : List Loc) : Prop := v = some (.long q1) ∧ Fr n0 L ∧ h = h0
set_option maxRecDepth 65536 in
set_option maxHeartbeats 40000000 in
theorem rm4 (l : Launch) (Z : State) (a0 : Array Value) (hw : ∀ d ∈ tables_1, d.before a0 Z = true) (ws : List Jvm.Cond) (a : Addr) (q1 : Int64) (h0 : Heap) (n0 : Nat) (Z0 : n0 ≤ h0.size) (F_a_spent : Fld Z h0 a "com/example/waning_versions/waningversions/service/WorkBudget" "spent" "J" (.long q1)) :
    MetFree l (⟨"com/example/waning_versions/waningversions/service/WorkBudget", "spent", "()J"⟩ : MethodName) (head1 (Jvm.Cond.code (⟨"com/example/waning_versions/waningversions/service/WorkBudget", "spent", "()J"⟩ : MethodName) prog_76_method_4_code 1 (some .long) :: ws) ({ frames := 0, cells := 0, slots := 0, locals := 0 } : Room)) (fun as' U => as' = #[(.ref a)] ∧ Z.Warmed39 U.vm ∧ U.heap = h0) (fun _ _ _ _ _ => True) (fun _ U o U' => ∃ v L, o = .returned v ∧ Q4 Z a q1 h0 n0 v U'.heap L ∧ FrameEnd U o U' L ({ frames := 0, cells := 0, slots := 0, locals := 0 } : Room).cells ({ frames := 0, cells := 0, slots := 0, locals := 0 } : Room).slots) := by
  refine MetFree.of_bodySF (plainFor_of_name pn_4) hisR ?_
  intro p e s m args below meth c s₁ Bd hml0 hP hK
  obtain ⟨rfl, hZ, hh⟩ := hP
  have hx := Bd.exec
  have hby := Bd.bytes
  have hml : c.maxLocals = 1 := hml0
  have hown : s.vm.findClass "com/example/waning_versions/waningversions/service/WorkBudget" = some m.cls := findClass_of_methodNamed Bd.named
  have hnm := (name_of_methodNamed Bd.named Bd.method).1
  have X0 : Stand p l e ({ frames := 0, cells := 0, slots := 0, locals := 0 } : Room) s m #[(.ref a)] below meth c s₁ [] 0 0 := Stand.of_body Bd
  have e0 : s₁.heap = h0 := by rw [← hh, Bd.state]; rfl
  have N0 := Fr.nil n0
  refine own_via (fun t k => castTop (ef_4 m a) k) ?_
  show own_G _ _ _ _ (s₁.setTop (mkF m 0 #[.val (.ref a)] []))
  refine own_via (fun _ k => XS.aloadN X0.here hx rfl (hb hby d4_0) rfl rfl k) ?_
  show own_G _ _ _ _ (s₁.setTop (mkF m 1 #[.val (.ref a)] [(.ref a)]))
  obtain ⟨T6, X6, e6, st6⟩ := getF X0 hx hZ hown (host := "") (Or.inl (hw _ (List.mem_of_getElem? (i := 28) rfl))) Via.refl e0 F_a_spent (g := (mkF m 1 #[.val (.ref a)] [(.ref a)])) rfl rfl (hb hby d4_1)
  refine own_via st6 ?_
  show own_G _ _ _ _ (T6.setTop (mkF m 4 #[.val (.ref a)] [(.long q1)]))
  obtain ⟨fs, hr, hrun, hended, hW, hsame⟩ := X6.leave (v := some (.long q1)) (fun h => by rw [Bd.returns] at h; cases h)
  refine ⟨_, _, ?_, hrun, hended, _, _, rfl, ?_, ⟨_, rfl⟩, hW, hsame.mono (by decide) (by decide)⟩
  · jvm_step X6.here [X6.here.top, hx, (hb hby d4_4), X6.method', Bd.returns, narrow]
    first | (intro acts; rw [hr _ acts rfl rfl rfl]) | rw [hr _ _ rfl rfl rfl]
    exact Steps.refl _
  · show Q4 Z a q1 h0 n0 _ T6.heap _
    rw [e6]
    exact ⟨rfl, N0, rfl⟩
theorem d5_0 : decode prog_76_method_5_code 0 = .ok (.aload_n 0, 1) := by decide +kernel
theorem d5_1 : decode prog_76_method_5_code 1 = .ok (.dup, 1) := by decide +kernel
theorem d5_2 : decode prog_76_method_5_code 2 = .ok (.getfield 24, 3) := by decide +kernel
theorem d5_5 : decode prog_76_method_5_code 5 = .ok (.lload_n 1, 1) := by decide +kernel
theorem d5_6 : decode prog_76_method_5_code 6 = .ok (.ladd, 1) := by decide +kernel
theorem d5_7 : decode prog_76_method_5_code 7 = .ok (.putfield 24, 3) := by decide +kernel
theorem d5_10 : decode prog_76_method_5_code 10 = .ok (.aload_n 0, 1) := by decide +kernel
theorem d5_11 : decode prog_76_method_5_code 11 = .ok (.getfield 24, 3) := by decide +kernel
theorem d5_14 : decode prog_76_method_5_code 14 = .ok (.aload_n 0, 1) := by decide +kernel
theorem d5_15 : decode prog_76_method_5_code 15 = .ok (.getfield 21, 3) := by decide +kernel
theorem d5_18 : decode prog_76_method_5_code 18 = .ok (.lcmp, 1) := by decide +kernel
theorem d5_19 : decode prog_76_method_5_code 19 = .ok (.ifCond .gt 7, 3) := by decide +kernel
theorem d5_22 : decode prog_76_method_5_code 22 = .ok (.iconst 1, 1) := by decide +kernel
theorem d5_23 : decode prog_76_method_5_code 23 = .ok (.goto 4, 3) := by decide +kernel
theorem d5_26 : decode prog_76_method_5_code 26 = .ok (.iconst 0, 1) := by decide +kernel
theorem d5_27 : decode prog_76_method_5_code 27 = .ok (.ireturn, 1) := by decide +kernel
theorem pn_5 : plainName "com/example/waning_versions/waningversions/service/WorkBudget" = true := by first | (simp [plainName, overriddenIn]; done) | decide +kernel
theorem ef_5 (m : MethodId) (a : Addr) (u : Int64) : entryFrame m #[(.ref a), (.long u)] 3 = (mkF m 0 #[.val (.ref a), .val (.long u), .second] []) := by first | (simp [entryFrame, mkF, argsToLocals, Value.category]; done) | rfl
def Q5 (Z : State) (a : Addr) (u : Int64) (sp : Int64) (lim : Int64) (t : Int64) (h0 : Heap) (n0 : Nat) (v : Option Value) (h : Heap) (L : List Loc) : Prop := v = some (.int (if lim < t then 0 else 1)) ∧ Fr n0 L ∧ Keep h0 h [a] ∧ Exa Z h a "com/example/waning_versions/waningversions/service/WorkBudget" ∧ Fld Z h a "com/example/waning_versions/waningversions/service/WorkBudget" "spent" "J" (.long t) ∧ Fld Z h a "com/example/waning_versions/waningversions/service/WorkBudget" "limit" "J" (.long lim)
set_option maxRecDepth 65536 in
set_option maxHeartbeats 40000000 in
theorem rm5 (l : Launch) (Z : State) (a0 : Array Value) (hw : ∀ d ∈ tables_1, d.before a0 Z = true) (ws : List Jvm.Cond) (a : Addr) (u : Int64) (sp : Int64) (lim : Int64) (t : Int64) (h0 : Heap) (n0 : Nat) (Z0 : n0 ≤ h0.size) (E_a : Exa Z h0 a "com/example/waning_versions/waningversions/service/WorkBudget") (F_a_limit : Fld Z h0 a "com/example/waning_versions/waningversions/service/WorkBudget" "limit" "J" (.long lim)) (F_a_spent : Fld Z h0 a "com/example/waning_versions/waningversions/service/WorkBudget" "spent" "J" (.long sp)) (g_a : n0 ≤ a) (hs : sp + u = t) :
    MetFree l (⟨"com/example/waning_versions/waningversions/service/WorkBudget", "spend", "(J)Z"⟩ : MethodName) (head1 (Jvm.Cond.code (⟨"com/example/waning_versions/waningversions/service/WorkBudget", "spend", "(J)Z"⟩ : MethodName) prog_76_method_5_code 3 (some .boolean) :: ws) ({ frames := 0, cells := 0, slots := 0, locals := 0 } : Room)) (fun as' U => as' = #[(.ref a), (.long u)] ∧ Z.Warmed39 U.vm ∧ U.heap = h0) (fun _ _ _ _ _ => True) (fun _ U o U' => ∃ v L, o = .returned v ∧ Q5 Z a u sp lim t h0 n0 v U'.heap L ∧ FrameEnd U o U' L ({ frames := 0, cells := 0, slots := 0, locals := 0 } : Room).cells ({ frames := 0, cells := 0, slots := 0, locals := 0 } : Room).slots) := by
  refine MetFree.of_bodySF (plainFor_of_name pn_5) hisR ?_
  intro p e s m args below meth c s₁ Bd hml0 hP hK
  obtain ⟨rfl, hZ, hh⟩ := hP
  have hx := Bd.exec
  have hby := Bd.bytes
  have hml : c.maxLocals = 3 := hml0
  have hown : s.vm.findClass "com/example/waning_versions/waningversions/service/WorkBudget" = some m.cls := findClass_of_methodNamed Bd.named
  have hnm := (name_of_methodNamed Bd.named Bd.method).1
  have X0 : Stand p l e ({ frames := 0, cells := 0, slots := 0, locals := 0 } : Room) s m #[(.ref a), (.long u)] below meth c s₁ [] 0 0 := Stand.of_body Bd
  have e0 : s₁.heap = h0 := by rw [← hh, Bd.state]; rfl
  have N0 := Fr.nil n0
  have K : Keep h0 h0 [a] := Keep.refl _ _
  refine own_via (fun t k => castTop (ef_5 m a u) k) ?_
  show own_G _ _ _ _ (s₁.setTop (mkF m 0 #[.val (.ref a), .val (.long u), .second] []))
  refine own_via (fun _ k => XS.aloadN X0.here hx rfl (hb hby d5_0) rfl rfl k) ?_
  show own_G _ _ _ _ (s₁.setTop (mkF m 1 #[.val (.ref a), .val (.long u), .second] [(.ref a)]))
  refine own_via (fun _ k => XS.dup X0.here hx rfl (hb hby d5_1) rfl rfl k) ?_
  show own_G _ _ _ _ (s₁.setTop (mkF m 2 #[.val (.ref a), .val (.long u), .second] [(.ref a), (.ref a)]))
  obtain ⟨T7, X7, e7, st7⟩ := getF X0 hx hZ hown (host := "") (Or.inl (hw _ (List.mem_of_getElem? (i := 28) rfl))) Via.refl e0 F_a_spent (g := (mkF m 2 #[.val (.ref a), .val (.long u), .second] [(.ref a), (.ref a)])) rfl rfl (hb hby d5_2)
  refine own_via st7 ?_
  show own_G _ _ _ _ (T7.setTop (mkF m 5 #[.val (.ref a), .val (.long u), .second] [(.long sp), (.ref a)]))
  refine own_via (fun _ k => XS.lloadN X7.here hx rfl (hb hby d5_5) rfl k) ?_
  show own_G _ _ _ _ (T7.setTop (mkF m 6 #[.val (.ref a), .val (.long u), .second] [(.long u), (.long sp), (.ref a)]))
  refine own_via (fun _ k => XS.ladd X7.here hx rfl (hb hby d5_6) rfl k) ?_
  show own_G _ _ _ _ (T7.setTop (mkF m 7 #[.val (.ref a), .val (.long u), .second] [(.long (sp + u)), (.ref a)]))
  rw [hs]
  show own_G _ _ _ _ (T7.setTop (mkF m 7 #[.val (.ref a), .val (.long u), .second] [(.long t), (.ref a)]))
  obtain ⟨T8, h8, X8, e8, W8, st8⟩ := putF X7 hx hZ hown (host := "") (Or.inl (hw _ (List.mem_of_getElem? (i := 28) rfl))) Via.refl e7 F_a_spent E_a (Or.inl (hw _ (List.mem_of_getElem? (i := 29) rfl))) (hw _ (List.mem_of_getElem? (i := 1) rfl)) (ty := .long) (by decide) rfl rfl (g := (mkF m 7 #[.val (.ref a), .val (.long u), .second] [(.long t), (.ref a)])) rfl rfl (hb hby d5_7)
  have F_a_spent := F_a_spent.same W8
  have F_a_limit := F_a_limit.other W8 (Or.inr (slot_ne (Or.inr (hw _ (List.mem_of_getElem? (i := 17) rfl))) (Or.inl (hw _ (List.mem_of_getElem? (i := 29) rfl))) (by decide) (t := .long) (t' := .long) (by decide) (by decide)))
  have E_a := E_a.wr W8
  have Z0 := Nat.le_trans Z0 (Keep.of_wr W8).1
  have K := K.wr W8 (Or.inl (by simp))
  have N8 := Fr.snoc X8 N0 g_a
  refine own_via st8 ?_
  show own_G _ _ _ _ (T8.setTop (mkF m 10 #[.val (.ref a), .val (.long u), .second] []))
  refine own_via (fun _ k => XS.aloadN X8.here hx rfl (hb hby d5_10) rfl rfl k) ?_
  show own_G _ _ _ _ (T8.setTop (mkF m 11 #[.val (.ref a), .val (.long u), .second] [(.ref a)]))
  obtain ⟨T9, X9, e9, st9⟩ := getF X8 hx hZ hown (host := "") (Or.inl (hw _ (List.mem_of_getElem? (i := 28) rfl))) Via.refl e8 F_a_spent (g := (mkF m 11 #[.val (.ref a), .val (.long u), .second] [(.ref a)])) rfl rfl (hb hby d5_11)
  refine own_via st9 ?_
  show own_G _ _ _ _ (T9.setTop (mkF m 14 #[.val (.ref a), .val (.long u), .second] [(.long t)]))
  refine own_via (fun _ k => XS.aloadN X9.here hx rfl (hb hby d5_14) rfl rfl k) ?_
  show own_G _ _ _ _ (T9.setTop (mkF m 15 #[.val (.ref a), .val (.long u), .second] [(.ref a), (.long t)]))
  obtain ⟨T10, X10, e10, st10⟩ := getF X9 hx hZ hown (host := "") (Or.inl (hw _ (List.mem_of_getElem? (i := 16) rfl))) Via.refl e9 F_a_limit (g := (mkF m 15 #[.val (.ref a), .val (.long u), .second] [(.ref a), (.long t)])) rfl rfl (hb hby d5_15)
  refine own_via st10 ?_
  show own_G _ _ _ _ (T10.setTop (mkF m 18 #[.val (.ref a), .val (.long u), .second] [(.long lim), (.long t)]))
  refine own_via (fun _ k => XS.lcmp X10.here hx rfl (hb hby d5_18) rfl k) ?_
  show own_G _ _ _ _ (T10.setTop (mkF m 19 #[.val (.ref a), .val (.long u), .second] [(.int (lcmpW t lim))]))
  by_cases hc : lim < t
  · refine own_via (fun _ k => XS.ifYes X10.here hx rfl (pc0 := 19) (pc' := 26) rfl (hb hby d5_19) rfl ((if0 _ _).trans (tlt ((lw_gt _ _).mpr hc)).2.2.1) (by decide) (by decide) k) ?_
    show own_G _ _ _ _ (T10.setTop (mkF m 26 #[.val (.ref a), .val (.long u), .second] []))
    refine own_via (fun _ k => XS.iconst X10.here hx rfl (hb hby d5_26) k) ?_
    show own_G _ _ _ _ (T10.setTop (mkF m 27 #[.val (.ref a), .val (.long u), .second] [(.int (0 : Int32))]))
    obtain ⟨fs, hr, hrun, hended, hW, hsame⟩ := X10.leave (v := some (.int (0 : Int32))) (fun h => by rw [Bd.returns] at h; cases h)
    refine ⟨_, _, ?_, hrun, hended, _, _, rfl, ?_, ⟨_, rfl⟩, hW, hsame.mono (by decide) (by decide)⟩
    · exact retN X10 hx (t := .boolean) Bd.returns (by simp) (hb hby d5_27) hr
    · show Q5 Z a u sp lim t h0 n0 _ T10.heap _
      rw [e10]
      exact ⟨by simp [hc], N8, K, E_a, F_a_spent, F_a_limit⟩
  · refine own_via (fun _ k => XS.ifNo X10.here hx rfl (hb hby d5_19) rfl ((if0 _ _).trans (flt (fun z => hc ((lw_gt _ _).mp z))).2.2.1) k) ?_
    show own_G _ _ _ _ (T10.setTop (mkF m 22 #[.val (.ref a), .val (.long u), .second] []))
    refine own_via (fun _ k => XS.iconst X10.here hx rfl (hb hby d5_22) k) ?_
    show own_G _ _ _ _ (T10.setTop (mkF m 23 #[.val (.ref a), .val (.long u), .second] [(.int (1 : Int32))]))
    refine own_via (fun _ k => XS.goto X10.here hx rfl (pc0 := 23) (pc' := 27) rfl (hb hby d5_23) (by decide) (by decide) k) ?_
    show own_G _ _ _ _ (T10.setTop (mkF m 27 #[.val (.ref a), .val (.long u), .second] [(.int (1 : Int32))]))
    obtain ⟨fs, hr, hrun, hended, hW, hsame⟩ := X10.leave (v := some (.int (1 : Int32))) (fun h => by rw [Bd.returns] at h; cases h)
    refine ⟨_, _, ?_, hrun, hended, _, _, rfl, ?_, ⟨_, rfl⟩, hW, hsame.mono (by decide) (by decide)⟩
    · exact retN X10 hx (t := .boolean) Bd.returns (by simp) (hb hby d5_27) hr
    · show Q5 Z a u sp lim t h0 n0 _ T10.heap _
      rw [e10]
      exact ⟨by simp [hc], N8, K, E_a, F_a_spent, F_a_limit⟩
theorem pn_0 : plainName "com/example/waning_versions/waningversions/service/WorkBudgetSpendPinLaw" = true := by first | (simp [plainName, overriddenIn]; done) | decide +kernel
theorem ef_0 (m : MethodId) (j1 : Int64) (i1 : Int32) (u1 : Int64) (u2 : Int64) (u3 : Int64) : entryFrame m #[(.long j1), (.int i1), (.long u1), (.long u2), (.long u3)] maxLocals = (mkF m 0 #[.val (.long j1), .second, .val (.int i1), .val (.long u1), .second, .val (.long u2), .second, .val (.long u3), .second, .unset, .unset, .unset, .unset, .unset, .unset, .unset, .unset, .unset, .unset, .unset, .unset, .unset] []) := by first | (simp [entryFrame, mkF, argsToLocals, Value.category, maxLocals]; done) | rfl
set_option maxRecDepth 65536 in
set_option maxHeartbeats 40000000 in
theorem rm0 (l : Launch) (Z : State) (a0 : Array Value) (hw : ∀ d ∈ tables_1, d.before a0 Z = true) (ws : List Jvm.Cond) (j1 : Int64) (i1 : Int32) (u1 : Int64) (u2 : Int64) (u3 : Int64) (h0 : Heap) (n0 : Nat) (Z0 : n0 ≤ h0.size) :
    MetFree l x (head1 (Jvm.Cond.code x code maxLocals ret :: ws) room_1) (fun as' U => as' = #[(.long j1), (.int i1), (.long u1), (.long u2), (.long u3)] ∧ Z.Warmed39 U.vm ∧ U.heap = h0) (fun _ _ _ _ _ => True) (fun _ U o U' => ∃ v L, o = .returned v ∧ (v = some (.int 1) ∧ Fr n0 L) ∧ FrameEnd U o U' L 1 3) := by
  refine MetFree.of_bodySF (plainFor_of_name pn_0) hisR ?_
  intro p e s m args below meth c s₁ Bd hml0 hP hK
  obtain ⟨rfl, hZ, hh⟩ := hP
  have hx := Bd.exec
  have hby := Bd.bytes
  have hml : c.maxLocals = 22 := hml0
  have hown : s.vm.findClass "com/example/waning_versions/waningversions/service/WorkBudgetSpendPinLaw" = some m.cls := findClass_of_methodNamed Bd.named
  have hnm := (name_of_methodNamed Bd.named Bd.method).1
  have X0 : Stand p l e room_1 s m #[(.long j1), (.int i1), (.long u1), (.long u2), (.long u3)] below meth c s₁ [] 0 0 := Stand.of_body Bd
  have e0 : s₁.heap = h0 := by rw [← hh, Bd.state]; rfl
  have N0 := Fr.nil n0
  refine own_via (fun t k => castTop (ef_0 m j1 i1 u1 u2 u3) k) ?_
  show own_G _ _ _ _ (s₁.setTop (mkF m 0 #[.val (.long j1), .second, .val (.int i1), .val (.long u1), .second, .val (.long u2), .second, .val (.long u3), .second, .unset, .unset, .unset, .unset, .unset, .unset, .unset, .unset, .unset, .unset, .unset, .unset, .unset] []))
  obtain ⟨T11, h11, X11, e11, E11, A11, D11, -, st11⟩ := newO X0 hx hZ hown (hw _ (List.mem_of_getElem? (i := 0) rfl)) (hw _ (List.mem_of_getElem? (i := 1) rfl)) (hw _ (List.mem_of_getElem? (i := 2) rfl)) e0 (g := (mkF m 0 #[.val (.long j1), .second, .val (.int i1), .val (.long u1), .second, .val (.long u2), .second, .val (.long u3), .second, .unset, .unset, .unset, .unset, .unset, .unset, .unset, .unset, .unset, .unset, .unset, .unset, .unset] [])) rfl (hb hby at_0) (by decide) (by decide)
  obtain ⟨b, g11⟩ : ∃ z, z = h0.size := ⟨_, rfl⟩
  rw [← g11] at A11 D11 st11
  have g_b : n0 ≤ b := Nat.le_trans Z0 (Nat.le_of_eq g11.symm)
  have Z0 := Nat.le_trans Z0 E11.1
  have E_b := A11
  have F_b_size : Fld Z h11 b "com/example/waning_versions/waningversions/service/WorkBudget" "size" "J" (.long (0 : Int64)) := D11 (Or.inr (hw _ (List.mem_of_getElem? (i := 10) rfl))) (ty := .long) (by decide)
  have F_b_limit : Fld Z h11 b "com/example/waning_versions/waningversions/service/WorkBudget" "limit" "J" (.long (0 : Int64)) := D11 (Or.inr (hw _ (List.mem_of_getElem? (i := 17) rfl))) (ty := .long) (by decide)
  have F_b_spent : Fld Z h11 b "com/example/waning_versions/waningversions/service/WorkBudget" "spent" "J" (.long (0 : Int64)) := D11 (Or.inl (hw _ (List.mem_of_getElem? (i := 29) rfl))) (ty := .long) (by decide)
  refine own_via st11 ?_
  show own_G _ _ _ _ (T11.setTop (mkF m 3 #[.val (.long j1), .second, .val (.int i1), .val (.long u1), .second, .val (.long u2), .second, .val (.long u3), .second, .unset, .unset, .unset, .unset, .unset, .unset, .unset, .unset, .unset, .unset, .unset, .unset, .unset] [(.ref b)]))
  refine own_via (fun _ k => XS.dup X11.here hx rfl (hb hby at_3) rfl rfl k) ?_
  show own_G _ _ _ _ (T11.setTop (mkF m 4 #[.val (.long j1), .second, .val (.int i1), .val (.long u1), .second, .val (.long u2), .second, .val (.long u3), .second, .unset, .unset, .unset, .unset, .unset, .unset, .unset, .unset, .unset, .unset, .unset, .unset, .unset] [(.ref b), (.ref b)]))
  refine own_via (fun _ k => XS.lloadN X11.here hx rfl (hb hby at_4) rfl k) ?_
  show own_G _ _ _ _ (T11.setTop (mkF m 5 #[.val (.long j1), .second, .val (.int i1), .val (.long u1), .second, .val (.long u2), .second, .val (.long u3), .second, .unset, .unset, .unset, .unset, .unset, .unset, .unset, .unset, .unset, .unset, .unset, .unset, .unset] [(.long j1), (.ref b), (.ref b)]))
  refine own_via (fun _ k => XS.iloadN X11.here hx rfl (hb hby at_5) rfl k) ?_
  show own_G _ _ _ _ (T11.setTop (mkF m 6 #[.val (.long j1), .second, .val (.int i1), .val (.long u1), .second, .val (.long u2), .second, .val (.long u3), .second, .unset, .unset, .unset, .unset, .unset, .unset, .unset, .unset, .unset, .unset, .unset, .unset, .unset] [(.int i1), (.long j1), (.ref b), (.ref b)]))
  obtain ⟨_, _, ⟨T12, L12, k12, n12⟩, -, X12, ⟨Lc12, hQ12, l12, y12, z12⟩, st12⟩ := X11.specialBack hx (y := (⟨"com/example/waning_versions/waningversions/service/WorkBudget", "<init>", "(JI)V"⟩ : MethodName)) rfl hown (mvT hZ (hw _ (List.mem_of_getElem? (i := 3) rfl))) (mvT hZ (hw _ (List.mem_of_getElem? (i := 4) rfl))) (mvT hZ (hw _ (List.mem_of_getElem? (i := 5) rfl))) (by decide) (backOf (W := 1) (rm1 l Z a0 hw [] b j1 i1 h11 n0 Z0 E_b F_b_size F_b_limit F_b_spent g_b) hZ (hw _ (List.mem_of_getElem? (i := 5) rfl)) (hw _ (List.mem_of_getElem? (i := 2) rfl)) (by decide) (by decide)) (g := (mkF m 6 #[.val (.long j1), .second, .val (.int i1), .val (.long u1), .second, .val (.long u2), .second, .val (.long u3), .second, .unset, .unset, .unset, .unset, .unset, .unset, .unset, .unset, .unset, .unset, .unset, .unset, .unset] [(.int i1), (.long j1), (.ref b), (.ref b)])) rfl (by rw [hml]; rfl) (Steps.refl _) (a := b) (argsL := [(.long j1), (.int i1)]) (rest := [(.ref b)]) (lenOf pd_1 rfl) rfl (by show 2 * 0 + _ ≤ _; exact Nat.le_of_eq rfl) (hb hby at_6) (fun _ _ => ⟨rfl, e11, Nat.le_of_ble_eq_true rfl, Nat.le_of_ble_eq_true rfl⟩)
  dsimp only [Pt.U, Pt.locs, Pt.cells, Pt.slots] at X12 l12 y12 z12 st12 hQ12
  subst l12 y12 z12
  obtain ⟨rfl, N12q, K12, -, F_b_spent, lim, F_b_limit⟩ := hQ12
  have N12 := Fr.app N0 N12q
  have E_b := E_b.keep K12
  have Z0 := Nat.le_trans Z0 K12.1
  refine own_via (fun _ kt => st12.trans kt) ?_
  show own_G _ _ _ _ (T12.setTop (mkF m 9 #[.val (.long j1), .second, .val (.int i1), .val (.long u1), .second, .val (.long u2), .second, .val (.long u3), .second, .unset, .unset, .unset, .unset, .unset, .unset, .unset, .unset, .unset, .unset, .unset, .unset, .unset] [(.ref b)]))
  refine own_via (fun _ k => XS.astore X12.here hx rfl (hb hby at_9) rfl rfl (l' := #[.val (.long j1), .second, .val (.int i1), .val (.long u1), .second, .val (.long u2), .second, .val (.long u3), .second, .val (.ref b), .unset, .unset, .unset, .unset, .unset, .unset, .unset, .unset, .unset, .unset, .unset, .unset]) rfl k) ?_
  show own_G _ _ _ _ (T12.setTop (mkF m 11 #[.val (.long j1), .second, .val (.int i1), .val (.long u1), .second, .val (.long u2), .second, .val (.long u3), .second, .val (.ref b), .unset, .unset, .unset, .unset, .unset, .unset, .unset, .unset, .unset, .unset, .unset, .unset] []))
  refine own_via (fun _ k => XS.aload X12.here hx rfl (hb hby at_11) rfl rfl k) ?_
  show own_G _ _ _ _ (T12.setTop (mkF m 13 #[.val (.long j1), .second, .val (.int i1), .val (.long u1), .second, .val (.long u2), .second, .val (.long u3), .second, .val (.ref b), .unset, .unset, .unset, .unset, .unset, .unset, .unset, .unset, .unset, .unset, .unset, .unset] [(.ref b)]))
  obtain ⟨cq13, kq13, q13a, q13b, q13c⟩ := isOf hZ rfl E_b
  obtain ⟨_, _, ⟨T13, L13, k13, n13⟩, -, X13, ⟨Lc13, hQ13, l13, y13, z13⟩, st13⟩ := X12.virtualBack hx (y := (⟨"com/example/waning_versions/waningversions/service/WorkBudget", "limit", "()J"⟩ : MethodName)) (z := (⟨"com/example/waning_versions/waningversions/service/WorkBudget", "limit", "()J"⟩ : MethodName)) hown (mvT hZ (hw _ (List.mem_of_getElem? (i := 18) rfl))) (mvT hZ (hw _ (List.mem_of_getElem? (i := 19) rfl))) (notFace_of_selects (args := #[]) (mvT hZ (hw _ (List.mem_of_getElem? (i := 21) rfl)))) (mvT hZ (hw _ (List.mem_of_getElem? (i := 21) rfl))) (mvT hZ (hw _ (List.mem_of_getElem? (i := 20) rfl))) (by decide) (backOf (W := 0) (rm3 l Z a0 hw [] b lim T12.heap n0 Z0 F_b_limit) hZ (hw _ (List.mem_of_getElem? (i := 22) rfl)) (hw _ (List.mem_of_getElem? (i := 2) rfl)) (by decide) (by decide)) q13a q13c (g := (mkF m 13 #[.val (.long j1), .second, .val (.int i1), .val (.long u1), .second, .val (.long u2), .second, .val (.long u3), .second, .val (.ref b), .unset, .unset, .unset, .unset, .unset, .unset, .unset, .unset, .unset, .unset, .unset, .unset] [(.ref b)])) rfl (by rw [hml]; rfl) (Steps.refl _) (argsL := []) (rest := []) (lenOf pd_2 rfl) rfl (by show 2 * 0 + _ ≤ _; exact Nat.le_of_eq rfl) (hb hby at_13) (fun _ _ => ⟨rfl, rfl, Nat.le_of_ble_eq_true rfl, Nat.le_of_ble_eq_true rfl⟩)
  dsimp only [Pt.U, Pt.locs, Pt.cells, Pt.slots] at X13 l13 y13 z13 st13 hQ13
  subst l13 y13 z13
  obtain ⟨rfl, N13q, e13⟩ := hQ13
  have N13 := Fr.app N12 N13q
  refine own_via (fun _ kt => st13.trans kt) ?_
  show own_G _ _ _ _ (T13.setTop (mkF m 16 #[.val (.long j1), .second, .val (.int i1), .val (.long u1), .second, .val (.long u2), .second, .val (.long u3), .second, .val (.ref b), .unset, .unset, .unset, .unset, .unset, .unset, .unset, .unset, .unset, .unset, .unset, .unset] [(.long lim)]))
  refine own_via (fun _ k => XS.lstore X13.here hx rfl (hb hby at_16) rfl (l' := #[.val (.long j1), .second, .val (.int i1), .val (.long u1), .second, .val (.long u2), .second, .val (.long u3), .second, .val (.ref b), .val (.long lim), .second, .unset, .unset, .unset, .unset, .unset, .unset, .unset, .unset, .unset, .unset]) rfl k) ?_
  show own_G _ _ _ _ (T13.setTop (mkF m 18 #[.val (.long j1), .second, .val (.int i1), .val (.long u1), .second, .val (.long u2), .second, .val (.long u3), .second, .val (.ref b), .val (.long lim), .second, .unset, .unset, .unset, .unset, .unset, .unset, .unset, .unset, .unset, .unset] []))
  refine own_via (fun _ k => XS.iconst X13.here hx rfl (hb hby at_18) k) ?_
  show own_G _ _ _ _ (T13.setTop (mkF m 19 #[.val (.long j1), .second, .val (.int i1), .val (.long u1), .second, .val (.long u2), .second, .val (.long u3), .second, .val (.ref b), .val (.long lim), .second, .unset, .unset, .unset, .unset, .unset, .unset, .unset, .unset, .unset, .unset] [(.int (1 : Int32))]))
  refine own_via (fun _ k => XS.istore X13.here hx rfl (hb hby at_19) rfl (l' := #[.val (.long j1), .second, .val (.int i1), .val (.long u1), .second, .val (.long u2), .second, .val (.long u3), .second, .val (.ref b), .val (.long lim), .second, .val (.int (1 : Int32)), .unset, .unset, .unset, .unset, .unset, .unset, .unset, .unset, .unset]) rfl k) ?_
  show own_G _ _ _ _ (T13.setTop (mkF m 21 #[.val (.long j1), .second, .val (.int i1), .val (.long u1), .second, .val (.long u2), .second, .val (.long u3), .second, .val (.ref b), .val (.long lim), .second, .val (.int (1 : Int32)), .unset, .unset, .unset, .unset, .unset, .unset, .unset, .unset, .unset] []))
  refine own_via (fun _ k => XS.aload X13.here hx rfl (hb hby at_21) rfl rfl k) ?_
  show own_G _ _ _ _ (T13.setTop (mkF m 23 #[.val (.long j1), .second, .val (.int i1), .val (.long u1), .second, .val (.long u2), .second, .val (.long u3), .second, .val (.ref b), .val (.long lim), .second, .val (.int (1 : Int32)), .unset, .unset, .unset, .unset, .unset, .unset, .unset, .unset, .unset] [(.ref b)]))
  refine own_via (fun _ k => XS.lloadN X13.here hx rfl (hb hby at_23) rfl k) ?_
  show own_G _ _ _ _ (T13.setTop (mkF m 24 #[.val (.long j1), .second, .val (.int i1), .val (.long u1), .second, .val (.long u2), .second, .val (.long u3), .second, .val (.ref b), .val (.long lim), .second, .val (.int (1 : Int32)), .unset, .unset, .unset, .unset, .unset, .unset, .unset, .unset, .unset] [(.long u1), (.ref b)]))
  obtain ⟨cq14, kq14, q14a, q14b, q14c⟩ := isOf hZ e13 E_b
  obtain ⟨_, _, ⟨T14, L14, k14, n14⟩, -, X14, ⟨Lc14, hQ14, l14, y14, z14⟩, st14⟩ := X13.virtualBack hx (y := (⟨"com/example/waning_versions/waningversions/service/WorkBudget", "spend", "(J)Z"⟩ : MethodName)) (z := (⟨"com/example/waning_versions/waningversions/service/WorkBudget", "spend", "(J)Z"⟩ : MethodName)) hown (mvT hZ (hw _ (List.mem_of_getElem? (i := 23) rfl))) (mvT hZ (hw _ (List.mem_of_getElem? (i := 24) rfl))) (notFace_of_selects (args := #[]) (mvT hZ (hw _ (List.mem_of_getElem? (i := 26) rfl)))) (mvT hZ (hw _ (List.mem_of_getElem? (i := 26) rfl))) (mvT hZ (hw _ (List.mem_of_getElem? (i := 25) rfl))) (by decide) (backOf (W := 0) (rm5 l Z a0 hw [] b u1 (0 : Int64) lim u1 T12.heap n0 Z0 E_b F_b_limit F_b_spent g_b (Int64.zero_add u1)) hZ (hw _ (List.mem_of_getElem? (i := 27) rfl)) (hw _ (List.mem_of_getElem? (i := 2) rfl)) (by decide) (by decide)) q14a q14c (g := (mkF m 24 #[.val (.long j1), .second, .val (.int i1), .val (.long u1), .second, .val (.long u2), .second, .val (.long u3), .second, .val (.ref b), .val (.long lim), .second, .val (.int (1 : Int32)), .unset, .unset, .unset, .unset, .unset, .unset, .unset, .unset, .unset] [(.long u1), (.ref b)])) rfl (by rw [hml]; rfl) (Steps.refl _) (argsL := [(.long u1)]) (rest := []) (lenOf pd_3 rfl) rfl (by show 2 * 0 + _ ≤ _; exact Nat.le_of_eq rfl) (hb hby at_24) (fun _ _ => ⟨rfl, e13, Nat.le_of_ble_eq_true rfl, Nat.le_of_ble_eq_true rfl⟩)
  dsimp only [Pt.U, Pt.locs, Pt.cells, Pt.slots] at X14 l14 y14 z14 st14 hQ14
  subst l14 y14 z14
  obtain ⟨rfl, N14q, K14, -, F_b_spent, F_b_limit⟩ := hQ14
  have N14 := Fr.app N13 N14q
  have E_b := E_b.keep K14
  have Z0 := Nat.le_trans Z0 K14.1
  refine own_via (fun _ kt => st14.trans kt) ?_
  show own_G _ _ _ _ (T14.setTop (mkF m 27 #[.val (.long j1), .second, .val (.int i1), .val (.long u1), .second, .val (.long u2), .second, .val (.long u3), .second, .val (.ref b), .val (.long lim), .second, .val (.int (1 : Int32)), .unset, .unset, .unset, .unset, .unset, .unset, .unset, .unset, .unset] [(.int (if lim < u1 then (0 : Int32) else 1))]))
  refine own_via (fun _ k => XS.istore X14.here hx rfl (hb hby at_27) rfl (l' := #[.val (.long j1), .second, .val (.int i1), .val (.long u1), .second, .val (.long u2), .second, .val (.long u3), .second, .val (.ref b), .val (.long lim), .second, .val (.int (1 : Int32)), .val (.int (if lim < u1 then (0 : Int32) else 1)), .unset, .unset, .unset, .unset, .unset, .unset, .unset, .unset]) rfl k) ?_
  show own_G _ _ _ _ (T14.setTop (mkF m 29 #[.val (.long j1), .second, .val (.int i1), .val (.long u1), .second, .val (.long u2), .second, .val (.long u3), .second, .val (.ref b), .val (.long lim), .second, .val (.int (1 : Int32)), .val (.int (if lim < u1 then (0 : Int32) else 1)), .unset, .unset, .unset, .unset, .unset, .unset, .unset, .unset] []))
  refine own_via (fun _ k => XS.lloadN X14.here hx rfl (hb hby at_29) rfl k) ?_
  show own_G _ _ _ _ (T14.setTop (mkF m 30 #[.val (.long j1), .second, .val (.int i1), .val (.long u1), .second, .val (.long u2), .second, .val (.long u3), .second, .val (.ref b), .val (.long lim), .second, .val (.int (1 : Int32)), .val (.int (if lim < u1 then (0 : Int32) else 1)), .unset, .unset, .unset, .unset, .unset, .unset, .unset, .unset] [(.long u1)]))
  refine own_via (fun _ k => XS.lstore X14.here hx rfl (hb hby at_30) rfl (l' := #[.val (.long j1), .second, .val (.int i1), .val (.long u1), .second, .val (.long u2), .second, .val (.long u3), .second, .val (.ref b), .val (.long lim), .second, .val (.int (1 : Int32)), .val (.int (if lim < u1 then (0 : Int32) else 1)), .val (.long u1), .second, .unset, .unset, .unset, .unset, .unset, .unset]) rfl k) ?_
  show own_G _ _ _ _ (T14.setTop (mkF m 32 #[.val (.long j1), .second, .val (.int i1), .val (.long u1), .second, .val (.long u2), .second, .val (.long u3), .second, .val (.ref b), .val (.long lim), .second, .val (.int (1 : Int32)), .val (.int (if lim < u1 then (0 : Int32) else 1)), .val (.long u1), .second, .unset, .unset, .unset, .unset, .unset, .unset] []))
  refine own_via (fun _ k => XS.iload X14.here hx rfl (hb hby at_32) rfl k) ?_
  show own_G _ _ _ _ (T14.setTop (mkF m 34 #[.val (.long j1), .second, .val (.int i1), .val (.long u1), .second, .val (.long u2), .second, .val (.long u3), .second, .val (.ref b), .val (.long lim), .second, .val (.int (1 : Int32)), .val (.int (if lim < u1 then (0 : Int32) else 1)), .val (.long u1), .second, .unset, .unset, .unset, .unset, .unset, .unset] [(.int (1 : Int32))]))
  refine own_via (fun _ k => XS.ifNo X14.here hx rfl (hb hby at_34) rfl ((if0 _ _).trans (feq (by decide)).1) k) ?_
  show own_G _ _ _ _ (T14.setTop (mkF m 37 #[.val (.long j1), .second, .val (.int i1), .val (.long u1), .second, .val (.long u2), .second, .val (.long u3), .second, .val (.ref b), .val (.long lim), .second, .val (.int (1 : Int32)), .val (.int (if lim < u1 then (0 : Int32) else 1)), .val (.long u1), .second, .unset, .unset, .unset, .unset, .unset, .unset] []))
  refine own_via (fun _ k => XS.iload X14.here hx rfl (hb hby at_37) rfl k) ?_
  show own_G _ _ _ _ (T14.setTop (mkF m 39 #[.val (.long j1), .second, .val (.int i1), .val (.long u1), .second, .val (.long u2), .second, .val (.long u3), .second, .val (.ref b), .val (.long lim), .second, .val (.int (1 : Int32)), .val (.int (if lim < u1 then (0 : Int32) else 1)), .val (.long u1), .second, .unset, .unset, .unset, .unset, .unset, .unset] [(.int (if lim < u1 then (0 : Int32) else 1))]))
  refine own_via (fun _ k => XS.lload X14.here hx rfl (hb hby at_39) rfl k) ?_
  show own_G _ _ _ _ (T14.setTop (mkF m 41 #[.val (.long j1), .second, .val (.int i1), .val (.long u1), .second, .val (.long u2), .second, .val (.long u3), .second, .val (.ref b), .val (.long lim), .second, .val (.int (1 : Int32)), .val (.int (if lim < u1 then (0 : Int32) else 1)), .val (.long u1), .second, .unset, .unset, .unset, .unset, .unset, .unset] [(.long u1), (.int (if lim < u1 then (0 : Int32) else 1))]))
  refine own_via (fun _ k => XS.lload X14.here hx rfl (hb hby at_41) rfl k) ?_
  show own_G _ _ _ _ (T14.setTop (mkF m 43 #[.val (.long j1), .second, .val (.int i1), .val (.long u1), .second, .val (.long u2), .second, .val (.long u3), .second, .val (.ref b), .val (.long lim), .second, .val (.int (1 : Int32)), .val (.int (if lim < u1 then (0 : Int32) else 1)), .val (.long u1), .second, .unset, .unset, .unset, .unset, .unset, .unset] [(.long lim), (.long u1), (.int (if lim < u1 then (0 : Int32) else 1))]))
  refine own_via (fun _ k => XS.lcmp X14.here hx rfl (hb hby at_43) rfl k) ?_
  show own_G _ _ _ _ (T14.setTop (mkF m 44 #[.val (.long j1), .second, .val (.int i1), .val (.long u1), .second, .val (.long u2), .second, .val (.long u3), .second, .val (.ref b), .val (.long lim), .second, .val (.int (1 : Int32)), .val (.int (if lim < u1 then (0 : Int32) else 1)), .val (.long u1), .second, .unset, .unset, .unset, .unset, .unset, .unset] [(.int (lcmpW u1 lim)), (.int (if lim < u1 then (0 : Int32) else 1))]))
  refine own_join (fun z : Int32 => z = (if lim < u1 then (0 : Int32) else 1)) (fun z : Int32 => T14.setTop (mkF m 52 #[.val (.long j1), .second, .val (.int i1), .val (.long u1), .second, .val (.long u2), .second, .val (.long u3), .second, .val (.ref b), .val (.long lim), .second, .val (.int (1 : Int32)), .val (.int (if lim < u1 then (0 : Int32) else 1)), .val (.long u1), .second, .unset, .unset, .unset, .unset, .unset, .unset] [(.int z), (.int (if lim < u1 then (0 : Int32) else 1))])) (fun F' kk => ?_) (fun q hq => ?_)
  · show own_G _ _ _ _ (T14.setTop (mkF m 44 #[.val (.long j1), .second, .val (.int i1), .val (.long u1), .second, .val (.long u2), .second, .val (.long u3), .second, .val (.ref b), .val (.long lim), .second, .val (.int (1 : Int32)), .val (.int (if lim < u1 then (0 : Int32) else 1)), .val (.long u1), .second, .unset, .unset, .unset, .unset, .unset, .unset] [(.int (lcmpW u1 lim)), (.int (if lim < u1 then (0 : Int32) else 1))]))
    by_cases hc : lim < u1
    · refine own_via (fun _ k => XS.ifYes X14.here hx rfl (pc0 := 44) (pc' := 51) rfl (hb hby at_44) rfl ((if0 _ _).trans (tlt ((lw_gt _ _).mpr hc)).2.2.1) (by decide) (by decide) k) ?_
      show own_G _ _ _ _ (T14.setTop (mkF m 51 #[.val (.long j1), .second, .val (.int i1), .val (.long u1), .second, .val (.long u2), .second, .val (.long u3), .second, .val (.ref b), .val (.long lim), .second, .val (.int (1 : Int32)), .val (.int (if lim < u1 then (0 : Int32) else 1)), .val (.long u1), .second, .unset, .unset, .unset, .unset, .unset, .unset] [(.int (if lim < u1 then (0 : Int32) else 1))]))
      refine own_via (fun _ k => XS.iconst X14.here hx rfl (hb hby at_51) k) ?_
      show own_G _ _ _ _ (T14.setTop (mkF m 52 #[.val (.long j1), .second, .val (.int i1), .val (.long u1), .second, .val (.long u2), .second, .val (.long u3), .second, .val (.ref b), .val (.long lim), .second, .val (.int (1 : Int32)), .val (.int (if lim < u1 then (0 : Int32) else 1)), .val (.long u1), .second, .unset, .unset, .unset, .unset, .unset, .unset] [(.int (0 : Int32)), (.int (if lim < u1 then (0 : Int32) else 1))]))
      exact kk ((0 : Int32)) (by simp [hc])
    · refine own_via (fun _ k => XS.ifNo X14.here hx rfl (hb hby at_44) rfl ((if0 _ _).trans (flt (fun z => hc ((lw_gt _ _).mp z))).2.2.1) k) ?_
      show own_G _ _ _ _ (T14.setTop (mkF m 47 #[.val (.long j1), .second, .val (.int i1), .val (.long u1), .second, .val (.long u2), .second, .val (.long u3), .second, .val (.ref b), .val (.long lim), .second, .val (.int (1 : Int32)), .val (.int (if lim < u1 then (0 : Int32) else 1)), .val (.long u1), .second, .unset, .unset, .unset, .unset, .unset, .unset] [(.int (if lim < u1 then (0 : Int32) else 1))]))
      refine own_via (fun _ k => XS.iconst X14.here hx rfl (hb hby at_47) k) ?_
      show own_G _ _ _ _ (T14.setTop (mkF m 48 #[.val (.long j1), .second, .val (.int i1), .val (.long u1), .second, .val (.long u2), .second, .val (.long u3), .second, .val (.ref b), .val (.long lim), .second, .val (.int (1 : Int32)), .val (.int (if lim < u1 then (0 : Int32) else 1)), .val (.long u1), .second, .unset, .unset, .unset, .unset, .unset, .unset] [(.int (1 : Int32)), (.int (if lim < u1 then (0 : Int32) else 1))]))
      refine own_via (fun _ k => XS.goto X14.here hx rfl (pc0 := 48) (pc' := 52) rfl (hb hby at_48) (by decide) (by decide) k) ?_
      show own_G _ _ _ _ (T14.setTop (mkF m 52 #[.val (.long j1), .second, .val (.int i1), .val (.long u1), .second, .val (.long u2), .second, .val (.long u3), .second, .val (.ref b), .val (.long lim), .second, .val (.int (1 : Int32)), .val (.int (if lim < u1 then (0 : Int32) else 1)), .val (.long u1), .second, .unset, .unset, .unset, .unset, .unset, .unset] [(.int (1 : Int32)), (.int (if lim < u1 then (0 : Int32) else 1))]))
      exact kk ((1 : Int32)) (by simp [hc])
  · obtain ⟨z, rfl⟩ : ∃ z, z = q := ⟨_, rfl⟩
    have hq : z = (if lim < u1 then (0 : Int32) else 1) := hq
    show own_G _ _ _ _ (T14.setTop (mkF m 52 #[.val (.long j1), .second, .val (.int i1), .val (.long u1), .second, .val (.long u2), .second, .val (.long u3), .second, .val (.ref b), .val (.long lim), .second, .val (.int (1 : Int32)), .val (.int (if lim < u1 then (0 : Int32) else 1)), .val (.long u1), .second, .unset, .unset, .unset, .unset, .unset, .unset] [(.int z), (.int (if lim < u1 then (0 : Int32) else 1))]))
    refine own_via (fun _ k => XS.icmpNo X14.here hx rfl (hb hby at_52) rfl (teq hq.symm).2 k) ?_
    show own_G _ _ _ _ (T14.setTop (mkF m 55 #[.val (.long j1), .second, .val (.int i1), .val (.long u1), .second, .val (.long u2), .second, .val (.long u3), .second, .val (.ref b), .val (.long lim), .second, .val (.int (1 : Int32)), .val (.int (if lim < u1 then (0 : Int32) else 1)), .val (.long u1), .second, .unset, .unset, .unset, .unset, .unset, .unset] []))
    refine own_via (fun _ k => XS.aload X14.here hx rfl (hb hby at_55) rfl rfl k) ?_
    show own_G _ _ _ _ (T14.setTop (mkF m 57 #[.val (.long j1), .second, .val (.int i1), .val (.long u1), .second, .val (.long u2), .second, .val (.long u3), .second, .val (.ref b), .val (.long lim), .second, .val (.int (1 : Int32)), .val (.int (if lim < u1 then (0 : Int32) else 1)), .val (.long u1), .second, .unset, .unset, .unset, .unset, .unset, .unset] [(.ref b)]))
    obtain ⟨cq15, kq15, q15a, q15b, q15c⟩ := isOf hZ rfl E_b
    obtain ⟨_, _, ⟨T15, L15, k15, n15⟩, -, X15, ⟨Lc15, hQ15, l15, y15, z15⟩, st15⟩ := X14.virtualBack hx (y := (⟨"com/example/waning_versions/waningversions/service/WorkBudget", "spent", "()J"⟩ : MethodName)) (z := (⟨"com/example/waning_versions/waningversions/service/WorkBudget", "spent", "()J"⟩ : MethodName)) hown (mvT hZ (hw _ (List.mem_of_getElem? (i := 30) rfl))) (mvT hZ (hw _ (List.mem_of_getElem? (i := 31) rfl))) (notFace_of_selects (args := #[]) (mvT hZ (hw _ (List.mem_of_getElem? (i := 33) rfl)))) (mvT hZ (hw _ (List.mem_of_getElem? (i := 33) rfl))) (mvT hZ (hw _ (List.mem_of_getElem? (i := 32) rfl))) (by decide) (backOf (W := 0) (rm4 l Z a0 hw [] b u1 T14.heap n0 Z0 F_b_spent) hZ (hw _ (List.mem_of_getElem? (i := 34) rfl)) (hw _ (List.mem_of_getElem? (i := 2) rfl)) (by decide) (by decide)) q15a q15c (g := (mkF m 57 #[.val (.long j1), .second, .val (.int i1), .val (.long u1), .second, .val (.long u2), .second, .val (.long u3), .second, .val (.ref b), .val (.long lim), .second, .val (.int (1 : Int32)), .val (.int (if lim < u1 then (0 : Int32) else 1)), .val (.long u1), .second, .unset, .unset, .unset, .unset, .unset, .unset] [(.ref b)])) rfl (by rw [hml]; rfl) (Steps.refl _) (argsL := []) (rest := []) (lenOf pd_2 rfl) rfl (by show 2 * 0 + _ ≤ _; exact Nat.le_of_eq rfl) (hb hby at_57) (fun _ _ => ⟨rfl, rfl, Nat.le_of_ble_eq_true rfl, Nat.le_of_ble_eq_true rfl⟩)
    dsimp only [Pt.U, Pt.locs, Pt.cells, Pt.slots] at X15 l15 y15 z15 st15 hQ15
    subst l15 y15 z15
    obtain ⟨rfl, N15q, e15⟩ := hQ15
    have N15 := Fr.app N14 N15q
    refine own_via (fun _ kt => st15.trans kt) ?_
    show own_G _ _ _ _ (T15.setTop (mkF m 60 #[.val (.long j1), .second, .val (.int i1), .val (.long u1), .second, .val (.long u2), .second, .val (.long u3), .second, .val (.ref b), .val (.long lim), .second, .val (.int (1 : Int32)), .val (.int (if lim < u1 then (0 : Int32) else 1)), .val (.long u1), .second, .unset, .unset, .unset, .unset, .unset, .unset] [(.long u1)]))
    refine own_via (fun _ k => XS.lload X15.here hx rfl (hb hby at_60) rfl k) ?_
    show own_G _ _ _ _ (T15.setTop (mkF m 62 #[.val (.long j1), .second, .val (.int i1), .val (.long u1), .second, .val (.long u2), .second, .val (.long u3), .second, .val (.ref b), .val (.long lim), .second, .val (.int (1 : Int32)), .val (.int (if lim < u1 then (0 : Int32) else 1)), .val (.long u1), .second, .unset, .unset, .unset, .unset, .unset, .unset] [(.long u1), (.long u1)]))
    refine own_via (fun _ k => XS.lcmp X15.here hx rfl (hb hby at_62) rfl k) ?_
    show own_G _ _ _ _ (T15.setTop (mkF m 63 #[.val (.long j1), .second, .val (.int i1), .val (.long u1), .second, .val (.long u2), .second, .val (.long u3), .second, .val (.ref b), .val (.long lim), .second, .val (.int (1 : Int32)), .val (.int (if lim < u1 then (0 : Int32) else 1)), .val (.long u1), .second, .unset, .unset, .unset, .unset, .unset, .unset] [(.int (lcmpW u1 u1))]))
    refine own_via (fun _ k => XS.ifNo X15.here hx rfl (hb hby at_63) rfl ((if0 _ _).trans (teq ((lw_eq _ _).mpr rfl)).2) k) ?_
    show own_G _ _ _ _ (T15.setTop (mkF m 66 #[.val (.long j1), .second, .val (.int i1), .val (.long u1), .second, .val (.long u2), .second, .val (.long u3), .second, .val (.ref b), .val (.long lim), .second, .val (.int (1 : Int32)), .val (.int (if lim < u1 then (0 : Int32) else 1)), .val (.long u1), .second, .unset, .unset, .unset, .unset, .unset, .unset] []))
    refine own_via (fun _ k => XS.iconst X15.here hx rfl (hb hby at_66) k) ?_
    show own_G _ _ _ _ (T15.setTop (mkF m 67 #[.val (.long j1), .second, .val (.int i1), .val (.long u1), .second, .val (.long u2), .second, .val (.long u3), .second, .val (.ref b), .val (.long lim), .second, .val (.int (1 : Int32)), .val (.int (if lim < u1 then (0 : Int32) else 1)), .val (.long u1), .second, .unset, .unset, .unset, .unset, .unset, .unset] [(.int (1 : Int32))]))
    refine own_via (fun _ k => XS.goto X15.here hx rfl (pc0 := 67) (pc' := 71) rfl (hb hby at_67) (by decide) (by decide) k) ?_
    show own_G _ _ _ _ (T15.setTop (mkF m 71 #[.val (.long j1), .second, .val (.int i1), .val (.long u1), .second, .val (.long u2), .second, .val (.long u3), .second, .val (.ref b), .val (.long lim), .second, .val (.int (1 : Int32)), .val (.int (if lim < u1 then (0 : Int32) else 1)), .val (.long u1), .second, .unset, .unset, .unset, .unset, .unset, .unset] [(.int (1 : Int32))]))
    refine own_via (fun _ k => XS.istore X15.here hx rfl (hb hby at_71) rfl (l' := #[.val (.long j1), .second, .val (.int i1), .val (.long u1), .second, .val (.long u2), .second, .val (.long u3), .second, .val (.ref b), .val (.long lim), .second, .val (.int (1 : Int32)), .val (.int (if lim < u1 then (0 : Int32) else 1)), .val (.long u1), .second, .unset, .unset, .unset, .unset, .unset, .unset]) rfl k) ?_
    show own_G _ _ _ _ (T15.setTop (mkF m 73 #[.val (.long j1), .second, .val (.int i1), .val (.long u1), .second, .val (.long u2), .second, .val (.long u3), .second, .val (.ref b), .val (.long lim), .second, .val (.int (1 : Int32)), .val (.int (if lim < u1 then (0 : Int32) else 1)), .val (.long u1), .second, .unset, .unset, .unset, .unset, .unset, .unset] []))
    refine own_via (fun _ k => XS.aload X15.here hx rfl (hb hby at_73) rfl rfl k) ?_
    show own_G _ _ _ _ (T15.setTop (mkF m 75 #[.val (.long j1), .second, .val (.int i1), .val (.long u1), .second, .val (.long u2), .second, .val (.long u3), .second, .val (.ref b), .val (.long lim), .second, .val (.int (1 : Int32)), .val (.int (if lim < u1 then (0 : Int32) else 1)), .val (.long u1), .second, .unset, .unset, .unset, .unset, .unset, .unset] [(.ref b)]))
    refine own_via (fun _ k => XS.lload X15.here hx rfl (hb hby at_75) rfl k) ?_
    show own_G _ _ _ _ (T15.setTop (mkF m 77 #[.val (.long j1), .second, .val (.int i1), .val (.long u1), .second, .val (.long u2), .second, .val (.long u3), .second, .val (.ref b), .val (.long lim), .second, .val (.int (1 : Int32)), .val (.int (if lim < u1 then (0 : Int32) else 1)), .val (.long u1), .second, .unset, .unset, .unset, .unset, .unset, .unset] [(.long u2), (.ref b)]))
    obtain ⟨cq16, kq16, q16a, q16b, q16c⟩ := isOf hZ e15 E_b
    obtain ⟨_, _, ⟨T16, L16, k16, n16⟩, -, X16, ⟨Lc16, hQ16, l16, y16, z16⟩, st16⟩ := X15.virtualBack hx (y := (⟨"com/example/waning_versions/waningversions/service/WorkBudget", "spend", "(J)Z"⟩ : MethodName)) (z := (⟨"com/example/waning_versions/waningversions/service/WorkBudget", "spend", "(J)Z"⟩ : MethodName)) hown (mvT hZ (hw _ (List.mem_of_getElem? (i := 23) rfl))) (mvT hZ (hw _ (List.mem_of_getElem? (i := 24) rfl))) (notFace_of_selects (args := #[]) (mvT hZ (hw _ (List.mem_of_getElem? (i := 26) rfl)))) (mvT hZ (hw _ (List.mem_of_getElem? (i := 26) rfl))) (mvT hZ (hw _ (List.mem_of_getElem? (i := 25) rfl))) (by decide) (backOf (W := 0) (rm5 l Z a0 hw [] b u2 u1 lim (u1 + u2) T14.heap n0 Z0 E_b F_b_limit F_b_spent g_b rfl) hZ (hw _ (List.mem_of_getElem? (i := 27) rfl)) (hw _ (List.mem_of_getElem? (i := 2) rfl)) (by decide) (by decide)) q16a q16c (g := (mkF m 77 #[.val (.long j1), .second, .val (.int i1), .val (.long u1), .second, .val (.long u2), .second, .val (.long u3), .second, .val (.ref b), .val (.long lim), .second, .val (.int (1 : Int32)), .val (.int (if lim < u1 then (0 : Int32) else 1)), .val (.long u1), .second, .unset, .unset, .unset, .unset, .unset, .unset] [(.long u2), (.ref b)])) rfl (by rw [hml]; rfl) (Steps.refl _) (argsL := [(.long u2)]) (rest := []) (lenOf pd_3 rfl) rfl (by show 2 * 0 + _ ≤ _; exact Nat.le_of_eq rfl) (hb hby at_77) (fun _ _ => ⟨rfl, e15, Nat.le_of_ble_eq_true rfl, Nat.le_of_ble_eq_true rfl⟩)
    dsimp only [Pt.U, Pt.locs, Pt.cells, Pt.slots] at X16 l16 y16 z16 st16 hQ16
    subst l16 y16 z16
    obtain ⟨rfl, N16q, K16, -, F_b_spent, F_b_limit⟩ := hQ16
    have N16 := Fr.app N15 N16q
    have E_b := E_b.keep K16
    have Z0 := Nat.le_trans Z0 K16.1
    refine own_via (fun _ kt => st16.trans kt) ?_
    show own_G _ _ _ _ (T16.setTop (mkF m 80 #[.val (.long j1), .second, .val (.int i1), .val (.long u1), .second, .val (.long u2), .second, .val (.long u3), .second, .val (.ref b), .val (.long lim), .second, .val (.int (1 : Int32)), .val (.int (if lim < u1 then (0 : Int32) else 1)), .val (.long u1), .second, .unset, .unset, .unset, .unset, .unset, .unset] [(.int (if lim < (u1 + u2) then (0 : Int32) else 1))]))
    refine own_via (fun _ k => XS.istore X16.here hx rfl (hb hby at_80) rfl (l' := #[.val (.long j1), .second, .val (.int i1), .val (.long u1), .second, .val (.long u2), .second, .val (.long u3), .second, .val (.ref b), .val (.long lim), .second, .val (.int (1 : Int32)), .val (.int (if lim < u1 then (0 : Int32) else 1)), .val (.long u1), .second, .val (.int (if lim < (u1 + u2) then (0 : Int32) else 1)), .unset, .unset, .unset, .unset, .unset]) rfl k) ?_
    show own_G _ _ _ _ (T16.setTop (mkF m 82 #[.val (.long j1), .second, .val (.int i1), .val (.long u1), .second, .val (.long u2), .second, .val (.long u3), .second, .val (.ref b), .val (.long lim), .second, .val (.int (1 : Int32)), .val (.int (if lim < u1 then (0 : Int32) else 1)), .val (.long u1), .second, .val (.int (if lim < (u1 + u2) then (0 : Int32) else 1)), .unset, .unset, .unset, .unset, .unset] []))
    refine own_via (fun _ k => XS.lload X16.here hx rfl (hb hby at_82) rfl k) ?_
    show own_G _ _ _ _ (T16.setTop (mkF m 84 #[.val (.long j1), .second, .val (.int i1), .val (.long u1), .second, .val (.long u2), .second, .val (.long u3), .second, .val (.ref b), .val (.long lim), .second, .val (.int (1 : Int32)), .val (.int (if lim < u1 then (0 : Int32) else 1)), .val (.long u1), .second, .val (.int (if lim < (u1 + u2) then (0 : Int32) else 1)), .unset, .unset, .unset, .unset, .unset] [(.long u1)]))
    refine own_via (fun _ k => XS.lload X16.here hx rfl (hb hby at_84) rfl k) ?_
    show own_G _ _ _ _ (T16.setTop (mkF m 86 #[.val (.long j1), .second, .val (.int i1), .val (.long u1), .second, .val (.long u2), .second, .val (.long u3), .second, .val (.ref b), .val (.long lim), .second, .val (.int (1 : Int32)), .val (.int (if lim < u1 then (0 : Int32) else 1)), .val (.long u1), .second, .val (.int (if lim < (u1 + u2) then (0 : Int32) else 1)), .unset, .unset, .unset, .unset, .unset] [(.long u2), (.long u1)]))
    refine own_via (fun _ k => XS.ladd X16.here hx rfl (hb hby at_86) rfl k) ?_
    show own_G _ _ _ _ (T16.setTop (mkF m 87 #[.val (.long j1), .second, .val (.int i1), .val (.long u1), .second, .val (.long u2), .second, .val (.long u3), .second, .val (.ref b), .val (.long lim), .second, .val (.int (1 : Int32)), .val (.int (if lim < u1 then (0 : Int32) else 1)), .val (.long u1), .second, .val (.int (if lim < (u1 + u2) then (0 : Int32) else 1)), .unset, .unset, .unset, .unset, .unset] [(.long (u1 + u2))]))
    refine own_via (fun _ k => XS.lstore X16.here hx rfl (hb hby at_87) rfl (l' := #[.val (.long j1), .second, .val (.int i1), .val (.long u1), .second, .val (.long u2), .second, .val (.long u3), .second, .val (.ref b), .val (.long lim), .second, .val (.int (1 : Int32)), .val (.int (if lim < u1 then (0 : Int32) else 1)), .val (.long u1), .second, .val (.int (if lim < (u1 + u2) then (0 : Int32) else 1)), .val (.long (u1 + u2)), .second, .unset, .unset, .unset]) rfl k) ?_
    show own_G _ _ _ _ (T16.setTop (mkF m 89 #[.val (.long j1), .second, .val (.int i1), .val (.long u1), .second, .val (.long u2), .second, .val (.long u3), .second, .val (.ref b), .val (.long lim), .second, .val (.int (1 : Int32)), .val (.int (if lim < u1 then (0 : Int32) else 1)), .val (.long u1), .second, .val (.int (if lim < (u1 + u2) then (0 : Int32) else 1)), .val (.long (u1 + u2)), .second, .unset, .unset, .unset] []))
    refine own_via (fun _ k => XS.iload X16.here hx rfl (hb hby at_89) rfl k) ?_
    show own_G _ _ _ _ (T16.setTop (mkF m 91 #[.val (.long j1), .second, .val (.int i1), .val (.long u1), .second, .val (.long u2), .second, .val (.long u3), .second, .val (.ref b), .val (.long lim), .second, .val (.int (1 : Int32)), .val (.int (if lim < u1 then (0 : Int32) else 1)), .val (.long u1), .second, .val (.int (if lim < (u1 + u2) then (0 : Int32) else 1)), .val (.long (u1 + u2)), .second, .unset, .unset, .unset] [(.int (1 : Int32))]))
    refine own_via (fun _ k => XS.ifNo X16.here hx rfl (hb hby at_91) rfl ((if0 _ _).trans (feq (by decide)).1) k) ?_
    show own_G _ _ _ _ (T16.setTop (mkF m 94 #[.val (.long j1), .second, .val (.int i1), .val (.long u1), .second, .val (.long u2), .second, .val (.long u3), .second, .val (.ref b), .val (.long lim), .second, .val (.int (1 : Int32)), .val (.int (if lim < u1 then (0 : Int32) else 1)), .val (.long u1), .second, .val (.int (if lim < (u1 + u2) then (0 : Int32) else 1)), .val (.long (u1 + u2)), .second, .unset, .unset, .unset] []))
    refine own_via (fun _ k => XS.iload X16.here hx rfl (hb hby at_94) rfl k) ?_
    show own_G _ _ _ _ (T16.setTop (mkF m 96 #[.val (.long j1), .second, .val (.int i1), .val (.long u1), .second, .val (.long u2), .second, .val (.long u3), .second, .val (.ref b), .val (.long lim), .second, .val (.int (1 : Int32)), .val (.int (if lim < u1 then (0 : Int32) else 1)), .val (.long u1), .second, .val (.int (if lim < (u1 + u2) then (0 : Int32) else 1)), .val (.long (u1 + u2)), .second, .unset, .unset, .unset] [(.int (if lim < (u1 + u2) then (0 : Int32) else 1))]))
    refine own_via (fun _ k => XS.lload X16.here hx rfl (hb hby at_96) rfl k) ?_
    show own_G _ _ _ _ (T16.setTop (mkF m 98 #[.val (.long j1), .second, .val (.int i1), .val (.long u1), .second, .val (.long u2), .second, .val (.long u3), .second, .val (.ref b), .val (.long lim), .second, .val (.int (1 : Int32)), .val (.int (if lim < u1 then (0 : Int32) else 1)), .val (.long u1), .second, .val (.int (if lim < (u1 + u2) then (0 : Int32) else 1)), .val (.long (u1 + u2)), .second, .unset, .unset, .unset] [(.long (u1 + u2)), (.int (if lim < (u1 + u2) then (0 : Int32) else 1))]))
    refine own_via (fun _ k => XS.lload X16.here hx rfl (hb hby at_98) rfl k) ?_
    show own_G _ _ _ _ (T16.setTop (mkF m 100 #[.val (.long j1), .second, .val (.int i1), .val (.long u1), .second, .val (.long u2), .second, .val (.long u3), .second, .val (.ref b), .val (.long lim), .second, .val (.int (1 : Int32)), .val (.int (if lim < u1 then (0 : Int32) else 1)), .val (.long u1), .second, .val (.int (if lim < (u1 + u2) then (0 : Int32) else 1)), .val (.long (u1 + u2)), .second, .unset, .unset, .unset] [(.long lim), (.long (u1 + u2)), (.int (if lim < (u1 + u2) then (0 : Int32) else 1))]))
    refine own_via (fun _ k => XS.lcmp X16.here hx rfl (hb hby at_100) rfl k) ?_
    show own_G _ _ _ _ (T16.setTop (mkF m 101 #[.val (.long j1), .second, .val (.int i1), .val (.long u1), .second, .val (.long u2), .second, .val (.long u3), .second, .val (.ref b), .val (.long lim), .second, .val (.int (1 : Int32)), .val (.int (if lim < u1 then (0 : Int32) else 1)), .val (.long u1), .second, .val (.int (if lim < (u1 + u2) then (0 : Int32) else 1)), .val (.long (u1 + u2)), .second, .unset, .unset, .unset] [(.int (lcmpW (u1 + u2) lim)), (.int (if lim < (u1 + u2) then (0 : Int32) else 1))]))
    refine own_join (fun z : Int32 => z = (if lim < (u1 + u2) then (0 : Int32) else 1)) (fun z : Int32 => T16.setTop (mkF m 109 #[.val (.long j1), .second, .val (.int i1), .val (.long u1), .second, .val (.long u2), .second, .val (.long u3), .second, .val (.ref b), .val (.long lim), .second, .val (.int (1 : Int32)), .val (.int (if lim < u1 then (0 : Int32) else 1)), .val (.long u1), .second, .val (.int (if lim < (u1 + u2) then (0 : Int32) else 1)), .val (.long (u1 + u2)), .second, .unset, .unset, .unset] [(.int z), (.int (if lim < (u1 + u2) then (0 : Int32) else 1))])) (fun F' kk => ?_) (fun q hq => ?_)
    · show own_G _ _ _ _ (T16.setTop (mkF m 101 #[.val (.long j1), .second, .val (.int i1), .val (.long u1), .second, .val (.long u2), .second, .val (.long u3), .second, .val (.ref b), .val (.long lim), .second, .val (.int (1 : Int32)), .val (.int (if lim < u1 then (0 : Int32) else 1)), .val (.long u1), .second, .val (.int (if lim < (u1 + u2) then (0 : Int32) else 1)), .val (.long (u1 + u2)), .second, .unset, .unset, .unset] [(.int (lcmpW (u1 + u2) lim)), (.int (if lim < (u1 + u2) then (0 : Int32) else 1))]))
      by_cases hc : lim < (u1 + u2)
      · refine own_via (fun _ k => XS.ifYes X16.here hx rfl (pc0 := 101) (pc' := 108) rfl (hb hby at_101) rfl ((if0 _ _).trans (tlt ((lw_gt _ _).mpr hc)).2.2.1) (by decide) (by decide) k) ?_
        show own_G _ _ _ _ (T16.setTop (mkF m 108 #[.val (.long j1), .second, .val (.int i1), .val (.long u1), .second, .val (.long u2), .second, .val (.long u3), .second, .val (.ref b), .val (.long lim), .second, .val (.int (1 : Int32)), .val (.int (if lim < u1 then (0 : Int32) else 1)), .val (.long u1), .second, .val (.int (if lim < (u1 + u2) then (0 : Int32) else 1)), .val (.long (u1 + u2)), .second, .unset, .unset, .unset] [(.int (if lim < (u1 + u2) then (0 : Int32) else 1))]))
        refine own_via (fun _ k => XS.iconst X16.here hx rfl (hb hby at_108) k) ?_
        show own_G _ _ _ _ (T16.setTop (mkF m 109 #[.val (.long j1), .second, .val (.int i1), .val (.long u1), .second, .val (.long u2), .second, .val (.long u3), .second, .val (.ref b), .val (.long lim), .second, .val (.int (1 : Int32)), .val (.int (if lim < u1 then (0 : Int32) else 1)), .val (.long u1), .second, .val (.int (if lim < (u1 + u2) then (0 : Int32) else 1)), .val (.long (u1 + u2)), .second, .unset, .unset, .unset] [(.int (0 : Int32)), (.int (if lim < (u1 + u2) then (0 : Int32) else 1))]))
        exact kk ((0 : Int32)) (by simp [hc])
      · refine own_via (fun _ k => XS.ifNo X16.here hx rfl (hb hby at_101) rfl ((if0 _ _).trans (flt (fun z => hc ((lw_gt _ _).mp z))).2.2.1) k) ?_
        show own_G _ _ _ _ (T16.setTop (mkF m 104 #[.val (.long j1), .second, .val (.int i1), .val (.long u1), .second, .val (.long u2), .second, .val (.long u3), .second, .val (.ref b), .val (.long lim), .second, .val (.int (1 : Int32)), .val (.int (if lim < u1 then (0 : Int32) else 1)), .val (.long u1), .second, .val (.int (if lim < (u1 + u2) then (0 : Int32) else 1)), .val (.long (u1 + u2)), .second, .unset, .unset, .unset] [(.int (if lim < (u1 + u2) then (0 : Int32) else 1))]))
        refine own_via (fun _ k => XS.iconst X16.here hx rfl (hb hby at_104) k) ?_
        show own_G _ _ _ _ (T16.setTop (mkF m 105 #[.val (.long j1), .second, .val (.int i1), .val (.long u1), .second, .val (.long u2), .second, .val (.long u3), .second, .val (.ref b), .val (.long lim), .second, .val (.int (1 : Int32)), .val (.int (if lim < u1 then (0 : Int32) else 1)), .val (.long u1), .second, .val (.int (if lim < (u1 + u2) then (0 : Int32) else 1)), .val (.long (u1 + u2)), .second, .unset, .unset, .unset] [(.int (1 : Int32)), (.int (if lim < (u1 + u2) then (0 : Int32) else 1))]))
        refine own_via (fun _ k => XS.goto X16.here hx rfl (pc0 := 105) (pc' := 109) rfl (hb hby at_105) (by decide) (by decide) k) ?_
        show own_G _ _ _ _ (T16.setTop (mkF m 109 #[.val (.long j1), .second, .val (.int i1), .val (.long u1), .second, .val (.long u2), .second, .val (.long u3), .second, .val (.ref b), .val (.long lim), .second, .val (.int (1 : Int32)), .val (.int (if lim < u1 then (0 : Int32) else 1)), .val (.long u1), .second, .val (.int (if lim < (u1 + u2) then (0 : Int32) else 1)), .val (.long (u1 + u2)), .second, .unset, .unset, .unset] [(.int (1 : Int32)), (.int (if lim < (u1 + u2) then (0 : Int32) else 1))]))
        exact kk ((1 : Int32)) (by simp [hc])
    · obtain ⟨z, rfl⟩ : ∃ z, z = q := ⟨_, rfl⟩
      have hq : z = (if lim < (u1 + u2) then (0 : Int32) else 1) := hq
      show own_G _ _ _ _ (T16.setTop (mkF m 109 #[.val (.long j1), .second, .val (.int i1), .val (.long u1), .second, .val (.long u2), .second, .val (.long u3), .second, .val (.ref b), .val (.long lim), .second, .val (.int (1 : Int32)), .val (.int (if lim < u1 then (0 : Int32) else 1)), .val (.long u1), .second, .val (.int (if lim < (u1 + u2) then (0 : Int32) else 1)), .val (.long (u1 + u2)), .second, .unset, .unset, .unset] [(.int z), (.int (if lim < (u1 + u2) then (0 : Int32) else 1))]))
      refine own_via (fun _ k => XS.icmpNo X16.here hx rfl (hb hby at_109) rfl (teq hq.symm).2 k) ?_
      show own_G _ _ _ _ (T16.setTop (mkF m 112 #[.val (.long j1), .second, .val (.int i1), .val (.long u1), .second, .val (.long u2), .second, .val (.long u3), .second, .val (.ref b), .val (.long lim), .second, .val (.int (1 : Int32)), .val (.int (if lim < u1 then (0 : Int32) else 1)), .val (.long u1), .second, .val (.int (if lim < (u1 + u2) then (0 : Int32) else 1)), .val (.long (u1 + u2)), .second, .unset, .unset, .unset] []))
      refine own_via (fun _ k => XS.aload X16.here hx rfl (hb hby at_112) rfl rfl k) ?_
      show own_G _ _ _ _ (T16.setTop (mkF m 114 #[.val (.long j1), .second, .val (.int i1), .val (.long u1), .second, .val (.long u2), .second, .val (.long u3), .second, .val (.ref b), .val (.long lim), .second, .val (.int (1 : Int32)), .val (.int (if lim < u1 then (0 : Int32) else 1)), .val (.long u1), .second, .val (.int (if lim < (u1 + u2) then (0 : Int32) else 1)), .val (.long (u1 + u2)), .second, .unset, .unset, .unset] [(.ref b)]))
      obtain ⟨cq17, kq17, q17a, q17b, q17c⟩ := isOf hZ rfl E_b
      obtain ⟨_, _, ⟨T17, L17, k17, n17⟩, -, X17, ⟨Lc17, hQ17, l17, y17, z17⟩, st17⟩ := X16.virtualBack hx (y := (⟨"com/example/waning_versions/waningversions/service/WorkBudget", "spent", "()J"⟩ : MethodName)) (z := (⟨"com/example/waning_versions/waningversions/service/WorkBudget", "spent", "()J"⟩ : MethodName)) hown (mvT hZ (hw _ (List.mem_of_getElem? (i := 30) rfl))) (mvT hZ (hw _ (List.mem_of_getElem? (i := 31) rfl))) (notFace_of_selects (args := #[]) (mvT hZ (hw _ (List.mem_of_getElem? (i := 33) rfl)))) (mvT hZ (hw _ (List.mem_of_getElem? (i := 33) rfl))) (mvT hZ (hw _ (List.mem_of_getElem? (i := 32) rfl))) (by decide) (backOf (W := 0) (rm4 l Z a0 hw [] b (u1 + u2) T16.heap n0 Z0 F_b_spent) hZ (hw _ (List.mem_of_getElem? (i := 34) rfl)) (hw _ (List.mem_of_getElem? (i := 2) rfl)) (by decide) (by decide)) q17a q17c (g := (mkF m 114 #[.val (.long j1), .second, .val (.int i1), .val (.long u1), .second, .val (.long u2), .second, .val (.long u3), .second, .val (.ref b), .val (.long lim), .second, .val (.int (1 : Int32)), .val (.int (if lim < u1 then (0 : Int32) else 1)), .val (.long u1), .second, .val (.int (if lim < (u1 + u2) then (0 : Int32) else 1)), .val (.long (u1 + u2)), .second, .unset, .unset, .unset] [(.ref b)])) rfl (by rw [hml]; rfl) (Steps.refl _) (argsL := []) (rest := []) (lenOf pd_2 rfl) rfl (by show 2 * 0 + _ ≤ _; exact Nat.le_of_eq rfl) (hb hby at_114) (fun _ _ => ⟨rfl, rfl, Nat.le_of_ble_eq_true rfl, Nat.le_of_ble_eq_true rfl⟩)
      dsimp only [Pt.U, Pt.locs, Pt.cells, Pt.slots] at X17 l17 y17 z17 st17 hQ17
      subst l17 y17 z17
      obtain ⟨rfl, N17q, e17⟩ := hQ17
      have N17 := Fr.app N16 N17q
      refine own_via (fun _ kt => st17.trans kt) ?_
      show own_G _ _ _ _ (T17.setTop (mkF m 117 #[.val (.long j1), .second, .val (.int i1), .val (.long u1), .second, .val (.long u2), .second, .val (.long u3), .second, .val (.ref b), .val (.long lim), .second, .val (.int (1 : Int32)), .val (.int (if lim < u1 then (0 : Int32) else 1)), .val (.long u1), .second, .val (.int (if lim < (u1 + u2) then (0 : Int32) else 1)), .val (.long (u1 + u2)), .second, .unset, .unset, .unset] [(.long (u1 + u2))]))
      refine own_via (fun _ k => XS.lload X17.here hx rfl (hb hby at_117) rfl k) ?_
      show own_G _ _ _ _ (T17.setTop (mkF m 119 #[.val (.long j1), .second, .val (.int i1), .val (.long u1), .second, .val (.long u2), .second, .val (.long u3), .second, .val (.ref b), .val (.long lim), .second, .val (.int (1 : Int32)), .val (.int (if lim < u1 then (0 : Int32) else 1)), .val (.long u1), .second, .val (.int (if lim < (u1 + u2) then (0 : Int32) else 1)), .val (.long (u1 + u2)), .second, .unset, .unset, .unset] [(.long (u1 + u2)), (.long (u1 + u2))]))
      refine own_via (fun _ k => XS.lcmp X17.here hx rfl (hb hby at_119) rfl k) ?_
      show own_G _ _ _ _ (T17.setTop (mkF m 120 #[.val (.long j1), .second, .val (.int i1), .val (.long u1), .second, .val (.long u2), .second, .val (.long u3), .second, .val (.ref b), .val (.long lim), .second, .val (.int (1 : Int32)), .val (.int (if lim < u1 then (0 : Int32) else 1)), .val (.long u1), .second, .val (.int (if lim < (u1 + u2) then (0 : Int32) else 1)), .val (.long (u1 + u2)), .second, .unset, .unset, .unset] [(.int (lcmpW (u1 + u2) (u1 + u2)))]))
      refine own_via (fun _ k => XS.ifNo X17.here hx rfl (hb hby at_120) rfl ((if0 _ _).trans (teq ((lw_eq _ _).mpr rfl)).2) k) ?_
      show own_G _ _ _ _ (T17.setTop (mkF m 123 #[.val (.long j1), .second, .val (.int i1), .val (.long u1), .second, .val (.long u2), .second, .val (.long u3), .second, .val (.ref b), .val (.long lim), .second, .val (.int (1 : Int32)), .val (.int (if lim < u1 then (0 : Int32) else 1)), .val (.long u1), .second, .val (.int (if lim < (u1 + u2) then (0 : Int32) else 1)), .val (.long (u1 + u2)), .second, .unset, .unset, .unset] []))
      refine own_via (fun _ k => XS.iconst X17.here hx rfl (hb hby at_123) k) ?_
      show own_G _ _ _ _ (T17.setTop (mkF m 124 #[.val (.long j1), .second, .val (.int i1), .val (.long u1), .second, .val (.long u2), .second, .val (.long u3), .second, .val (.ref b), .val (.long lim), .second, .val (.int (1 : Int32)), .val (.int (if lim < u1 then (0 : Int32) else 1)), .val (.long u1), .second, .val (.int (if lim < (u1 + u2) then (0 : Int32) else 1)), .val (.long (u1 + u2)), .second, .unset, .unset, .unset] [(.int (1 : Int32))]))
      refine own_via (fun _ k => XS.goto X17.here hx rfl (pc0 := 124) (pc' := 128) rfl (hb hby at_124) (by decide) (by decide) k) ?_
      show own_G _ _ _ _ (T17.setTop (mkF m 128 #[.val (.long j1), .second, .val (.int i1), .val (.long u1), .second, .val (.long u2), .second, .val (.long u3), .second, .val (.ref b), .val (.long lim), .second, .val (.int (1 : Int32)), .val (.int (if lim < u1 then (0 : Int32) else 1)), .val (.long u1), .second, .val (.int (if lim < (u1 + u2) then (0 : Int32) else 1)), .val (.long (u1 + u2)), .second, .unset, .unset, .unset] [(.int (1 : Int32))]))
      refine own_via (fun _ k => XS.istore X17.here hx rfl (hb hby at_128) rfl (l' := #[.val (.long j1), .second, .val (.int i1), .val (.long u1), .second, .val (.long u2), .second, .val (.long u3), .second, .val (.ref b), .val (.long lim), .second, .val (.int (1 : Int32)), .val (.int (if lim < u1 then (0 : Int32) else 1)), .val (.long u1), .second, .val (.int (if lim < (u1 + u2) then (0 : Int32) else 1)), .val (.long (u1 + u2)), .second, .unset, .unset, .unset]) rfl k) ?_
      show own_G _ _ _ _ (T17.setTop (mkF m 130 #[.val (.long j1), .second, .val (.int i1), .val (.long u1), .second, .val (.long u2), .second, .val (.long u3), .second, .val (.ref b), .val (.long lim), .second, .val (.int (1 : Int32)), .val (.int (if lim < u1 then (0 : Int32) else 1)), .val (.long u1), .second, .val (.int (if lim < (u1 + u2) then (0 : Int32) else 1)), .val (.long (u1 + u2)), .second, .unset, .unset, .unset] []))
      refine own_via (fun _ k => XS.aload X17.here hx rfl (hb hby at_130) rfl rfl k) ?_
      show own_G _ _ _ _ (T17.setTop (mkF m 132 #[.val (.long j1), .second, .val (.int i1), .val (.long u1), .second, .val (.long u2), .second, .val (.long u3), .second, .val (.ref b), .val (.long lim), .second, .val (.int (1 : Int32)), .val (.int (if lim < u1 then (0 : Int32) else 1)), .val (.long u1), .second, .val (.int (if lim < (u1 + u2) then (0 : Int32) else 1)), .val (.long (u1 + u2)), .second, .unset, .unset, .unset] [(.ref b)]))
      refine own_via (fun _ k => XS.lload X17.here hx rfl (hb hby at_132) rfl k) ?_
      show own_G _ _ _ _ (T17.setTop (mkF m 134 #[.val (.long j1), .second, .val (.int i1), .val (.long u1), .second, .val (.long u2), .second, .val (.long u3), .second, .val (.ref b), .val (.long lim), .second, .val (.int (1 : Int32)), .val (.int (if lim < u1 then (0 : Int32) else 1)), .val (.long u1), .second, .val (.int (if lim < (u1 + u2) then (0 : Int32) else 1)), .val (.long (u1 + u2)), .second, .unset, .unset, .unset] [(.long u3), (.ref b)]))
      obtain ⟨cq18, kq18, q18a, q18b, q18c⟩ := isOf hZ e17 E_b
      obtain ⟨_, _, ⟨T18, L18, k18, n18⟩, -, X18, ⟨Lc18, hQ18, l18, y18, z18⟩, st18⟩ := X17.virtualBack hx (y := (⟨"com/example/waning_versions/waningversions/service/WorkBudget", "spend", "(J)Z"⟩ : MethodName)) (z := (⟨"com/example/waning_versions/waningversions/service/WorkBudget", "spend", "(J)Z"⟩ : MethodName)) hown (mvT hZ (hw _ (List.mem_of_getElem? (i := 23) rfl))) (mvT hZ (hw _ (List.mem_of_getElem? (i := 24) rfl))) (notFace_of_selects (args := #[]) (mvT hZ (hw _ (List.mem_of_getElem? (i := 26) rfl)))) (mvT hZ (hw _ (List.mem_of_getElem? (i := 26) rfl))) (mvT hZ (hw _ (List.mem_of_getElem? (i := 25) rfl))) (by decide) (backOf (W := 0) (rm5 l Z a0 hw [] b u3 (u1 + u2) lim ((u1 + u2) + u3) T16.heap n0 Z0 E_b F_b_limit F_b_spent g_b rfl) hZ (hw _ (List.mem_of_getElem? (i := 27) rfl)) (hw _ (List.mem_of_getElem? (i := 2) rfl)) (by decide) (by decide)) q18a q18c (g := (mkF m 134 #[.val (.long j1), .second, .val (.int i1), .val (.long u1), .second, .val (.long u2), .second, .val (.long u3), .second, .val (.ref b), .val (.long lim), .second, .val (.int (1 : Int32)), .val (.int (if lim < u1 then (0 : Int32) else 1)), .val (.long u1), .second, .val (.int (if lim < (u1 + u2) then (0 : Int32) else 1)), .val (.long (u1 + u2)), .second, .unset, .unset, .unset] [(.long u3), (.ref b)])) rfl (by rw [hml]; rfl) (Steps.refl _) (argsL := [(.long u3)]) (rest := []) (lenOf pd_3 rfl) rfl (by show 2 * 0 + _ ≤ _; exact Nat.le_of_eq rfl) (hb hby at_134) (fun _ _ => ⟨rfl, e17, Nat.le_of_ble_eq_true rfl, Nat.le_of_ble_eq_true rfl⟩)
      dsimp only [Pt.U, Pt.locs, Pt.cells, Pt.slots] at X18 l18 y18 z18 st18 hQ18
      subst l18 y18 z18
      obtain ⟨rfl, N18q, K18, -, F_b_spent, F_b_limit⟩ := hQ18
      have N18 := Fr.app N17 N18q
      have E_b := E_b.keep K18
      have Z0 := Nat.le_trans Z0 K18.1
      refine own_via (fun _ kt => st18.trans kt) ?_
      show own_G _ _ _ _ (T18.setTop (mkF m 137 #[.val (.long j1), .second, .val (.int i1), .val (.long u1), .second, .val (.long u2), .second, .val (.long u3), .second, .val (.ref b), .val (.long lim), .second, .val (.int (1 : Int32)), .val (.int (if lim < u1 then (0 : Int32) else 1)), .val (.long u1), .second, .val (.int (if lim < (u1 + u2) then (0 : Int32) else 1)), .val (.long (u1 + u2)), .second, .unset, .unset, .unset] [(.int (if lim < ((u1 + u2) + u3) then (0 : Int32) else 1))]))
      refine own_via (fun _ k => XS.istore X18.here hx rfl (hb hby at_137) rfl (l' := #[.val (.long j1), .second, .val (.int i1), .val (.long u1), .second, .val (.long u2), .second, .val (.long u3), .second, .val (.ref b), .val (.long lim), .second, .val (.int (1 : Int32)), .val (.int (if lim < u1 then (0 : Int32) else 1)), .val (.long u1), .second, .val (.int (if lim < (u1 + u2) then (0 : Int32) else 1)), .val (.long (u1 + u2)), .second, .val (.int (if lim < ((u1 + u2) + u3) then (0 : Int32) else 1)), .unset, .unset]) rfl k) ?_
      show own_G _ _ _ _ (T18.setTop (mkF m 139 #[.val (.long j1), .second, .val (.int i1), .val (.long u1), .second, .val (.long u2), .second, .val (.long u3), .second, .val (.ref b), .val (.long lim), .second, .val (.int (1 : Int32)), .val (.int (if lim < u1 then (0 : Int32) else 1)), .val (.long u1), .second, .val (.int (if lim < (u1 + u2) then (0 : Int32) else 1)), .val (.long (u1 + u2)), .second, .val (.int (if lim < ((u1 + u2) + u3) then (0 : Int32) else 1)), .unset, .unset] []))
      refine own_via (fun _ k => XS.lload X18.here hx rfl (hb hby at_139) rfl k) ?_
      show own_G _ _ _ _ (T18.setTop (mkF m 141 #[.val (.long j1), .second, .val (.int i1), .val (.long u1), .second, .val (.long u2), .second, .val (.long u3), .second, .val (.ref b), .val (.long lim), .second, .val (.int (1 : Int32)), .val (.int (if lim < u1 then (0 : Int32) else 1)), .val (.long u1), .second, .val (.int (if lim < (u1 + u2) then (0 : Int32) else 1)), .val (.long (u1 + u2)), .second, .val (.int (if lim < ((u1 + u2) + u3) then (0 : Int32) else 1)), .unset, .unset] [(.long (u1 + u2))]))
      refine own_via (fun _ k => XS.lload X18.here hx rfl (hb hby at_141) rfl k) ?_
      show own_G _ _ _ _ (T18.setTop (mkF m 143 #[.val (.long j1), .second, .val (.int i1), .val (.long u1), .second, .val (.long u2), .second, .val (.long u3), .second, .val (.ref b), .val (.long lim), .second, .val (.int (1 : Int32)), .val (.int (if lim < u1 then (0 : Int32) else 1)), .val (.long u1), .second, .val (.int (if lim < (u1 + u2) then (0 : Int32) else 1)), .val (.long (u1 + u2)), .second, .val (.int (if lim < ((u1 + u2) + u3) then (0 : Int32) else 1)), .unset, .unset] [(.long u3), (.long (u1 + u2))]))
      refine own_via (fun _ k => XS.ladd X18.here hx rfl (hb hby at_143) rfl k) ?_
      show own_G _ _ _ _ (T18.setTop (mkF m 144 #[.val (.long j1), .second, .val (.int i1), .val (.long u1), .second, .val (.long u2), .second, .val (.long u3), .second, .val (.ref b), .val (.long lim), .second, .val (.int (1 : Int32)), .val (.int (if lim < u1 then (0 : Int32) else 1)), .val (.long u1), .second, .val (.int (if lim < (u1 + u2) then (0 : Int32) else 1)), .val (.long (u1 + u2)), .second, .val (.int (if lim < ((u1 + u2) + u3) then (0 : Int32) else 1)), .unset, .unset] [(.long ((u1 + u2) + u3))]))
      refine own_via (fun _ k => XS.lstore X18.here hx rfl (hb hby at_144) rfl (l' := #[.val (.long j1), .second, .val (.int i1), .val (.long u1), .second, .val (.long u2), .second, .val (.long u3), .second, .val (.ref b), .val (.long lim), .second, .val (.int (1 : Int32)), .val (.int (if lim < u1 then (0 : Int32) else 1)), .val (.long u1), .second, .val (.int (if lim < (u1 + u2) then (0 : Int32) else 1)), .val (.long (u1 + u2)), .second, .val (.int (if lim < ((u1 + u2) + u3) then (0 : Int32) else 1)), .val (.long ((u1 + u2) + u3)), .second]) rfl k) ?_
      show own_G _ _ _ _ (T18.setTop (mkF m 146 #[.val (.long j1), .second, .val (.int i1), .val (.long u1), .second, .val (.long u2), .second, .val (.long u3), .second, .val (.ref b), .val (.long lim), .second, .val (.int (1 : Int32)), .val (.int (if lim < u1 then (0 : Int32) else 1)), .val (.long u1), .second, .val (.int (if lim < (u1 + u2) then (0 : Int32) else 1)), .val (.long (u1 + u2)), .second, .val (.int (if lim < ((u1 + u2) + u3) then (0 : Int32) else 1)), .val (.long ((u1 + u2) + u3)), .second] []))
      refine own_via (fun _ k => XS.iload X18.here hx rfl (hb hby at_146) rfl k) ?_
      show own_G _ _ _ _ (T18.setTop (mkF m 148 #[.val (.long j1), .second, .val (.int i1), .val (.long u1), .second, .val (.long u2), .second, .val (.long u3), .second, .val (.ref b), .val (.long lim), .second, .val (.int (1 : Int32)), .val (.int (if lim < u1 then (0 : Int32) else 1)), .val (.long u1), .second, .val (.int (if lim < (u1 + u2) then (0 : Int32) else 1)), .val (.long (u1 + u2)), .second, .val (.int (if lim < ((u1 + u2) + u3) then (0 : Int32) else 1)), .val (.long ((u1 + u2) + u3)), .second] [(.int (1 : Int32))]))
      refine own_via (fun _ k => XS.ifNo X18.here hx rfl (hb hby at_148) rfl ((if0 _ _).trans (feq (by decide)).1) k) ?_
      show own_G _ _ _ _ (T18.setTop (mkF m 151 #[.val (.long j1), .second, .val (.int i1), .val (.long u1), .second, .val (.long u2), .second, .val (.long u3), .second, .val (.ref b), .val (.long lim), .second, .val (.int (1 : Int32)), .val (.int (if lim < u1 then (0 : Int32) else 1)), .val (.long u1), .second, .val (.int (if lim < (u1 + u2) then (0 : Int32) else 1)), .val (.long (u1 + u2)), .second, .val (.int (if lim < ((u1 + u2) + u3) then (0 : Int32) else 1)), .val (.long ((u1 + u2) + u3)), .second] []))
      refine own_via (fun _ k => XS.iload X18.here hx rfl (hb hby at_151) rfl k) ?_
      show own_G _ _ _ _ (T18.setTop (mkF m 153 #[.val (.long j1), .second, .val (.int i1), .val (.long u1), .second, .val (.long u2), .second, .val (.long u3), .second, .val (.ref b), .val (.long lim), .second, .val (.int (1 : Int32)), .val (.int (if lim < u1 then (0 : Int32) else 1)), .val (.long u1), .second, .val (.int (if lim < (u1 + u2) then (0 : Int32) else 1)), .val (.long (u1 + u2)), .second, .val (.int (if lim < ((u1 + u2) + u3) then (0 : Int32) else 1)), .val (.long ((u1 + u2) + u3)), .second] [(.int (if lim < ((u1 + u2) + u3) then (0 : Int32) else 1))]))
      refine own_via (fun _ k => XS.lload X18.here hx rfl (hb hby at_153) rfl k) ?_
      show own_G _ _ _ _ (T18.setTop (mkF m 155 #[.val (.long j1), .second, .val (.int i1), .val (.long u1), .second, .val (.long u2), .second, .val (.long u3), .second, .val (.ref b), .val (.long lim), .second, .val (.int (1 : Int32)), .val (.int (if lim < u1 then (0 : Int32) else 1)), .val (.long u1), .second, .val (.int (if lim < (u1 + u2) then (0 : Int32) else 1)), .val (.long (u1 + u2)), .second, .val (.int (if lim < ((u1 + u2) + u3) then (0 : Int32) else 1)), .val (.long ((u1 + u2) + u3)), .second] [(.long ((u1 + u2) + u3)), (.int (if lim < ((u1 + u2) + u3) then (0 : Int32) else 1))]))
      refine own_via (fun _ k => XS.lload X18.here hx rfl (hb hby at_155) rfl k) ?_
      show own_G _ _ _ _ (T18.setTop (mkF m 157 #[.val (.long j1), .second, .val (.int i1), .val (.long u1), .second, .val (.long u2), .second, .val (.long u3), .second, .val (.ref b), .val (.long lim), .second, .val (.int (1 : Int32)), .val (.int (if lim < u1 then (0 : Int32) else 1)), .val (.long u1), .second, .val (.int (if lim < (u1 + u2) then (0 : Int32) else 1)), .val (.long (u1 + u2)), .second, .val (.int (if lim < ((u1 + u2) + u3) then (0 : Int32) else 1)), .val (.long ((u1 + u2) + u3)), .second] [(.long lim), (.long ((u1 + u2) + u3)), (.int (if lim < ((u1 + u2) + u3) then (0 : Int32) else 1))]))
      refine own_via (fun _ k => XS.lcmp X18.here hx rfl (hb hby at_157) rfl k) ?_
      show own_G _ _ _ _ (T18.setTop (mkF m 158 #[.val (.long j1), .second, .val (.int i1), .val (.long u1), .second, .val (.long u2), .second, .val (.long u3), .second, .val (.ref b), .val (.long lim), .second, .val (.int (1 : Int32)), .val (.int (if lim < u1 then (0 : Int32) else 1)), .val (.long u1), .second, .val (.int (if lim < (u1 + u2) then (0 : Int32) else 1)), .val (.long (u1 + u2)), .second, .val (.int (if lim < ((u1 + u2) + u3) then (0 : Int32) else 1)), .val (.long ((u1 + u2) + u3)), .second] [(.int (lcmpW ((u1 + u2) + u3) lim)), (.int (if lim < ((u1 + u2) + u3) then (0 : Int32) else 1))]))
      refine own_join (fun z : Int32 => z = (if lim < ((u1 + u2) + u3) then (0 : Int32) else 1)) (fun z : Int32 => T18.setTop (mkF m 166 #[.val (.long j1), .second, .val (.int i1), .val (.long u1), .second, .val (.long u2), .second, .val (.long u3), .second, .val (.ref b), .val (.long lim), .second, .val (.int (1 : Int32)), .val (.int (if lim < u1 then (0 : Int32) else 1)), .val (.long u1), .second, .val (.int (if lim < (u1 + u2) then (0 : Int32) else 1)), .val (.long (u1 + u2)), .second, .val (.int (if lim < ((u1 + u2) + u3) then (0 : Int32) else 1)), .val (.long ((u1 + u2) + u3)), .second] [(.int z), (.int (if lim < ((u1 + u2) + u3) then (0 : Int32) else 1))])) (fun F' kk => ?_) (fun q hq => ?_)
      · show own_G _ _ _ _ (T18.setTop (mkF m 158 #[.val (.long j1), .second, .val (.int i1), .val (.long u1), .second, .val (.long u2), .second, .val (.long u3), .second, .val (.ref b), .val (.long lim), .second, .val (.int (1 : Int32)), .val (.int (if lim < u1 then (0 : Int32) else 1)), .val (.long u1), .second, .val (.int (if lim < (u1 + u2) then (0 : Int32) else 1)), .val (.long (u1 + u2)), .second, .val (.int (if lim < ((u1 + u2) + u3) then (0 : Int32) else 1)), .val (.long ((u1 + u2) + u3)), .second] [(.int (lcmpW ((u1 + u2) + u3) lim)), (.int (if lim < ((u1 + u2) + u3) then (0 : Int32) else 1))]))
        by_cases hc : lim < ((u1 + u2) + u3)
        · refine own_via (fun _ k => XS.ifYes X18.here hx rfl (pc0 := 158) (pc' := 165) rfl (hb hby at_158) rfl ((if0 _ _).trans (tlt ((lw_gt _ _).mpr hc)).2.2.1) (by decide) (by decide) k) ?_
          show own_G _ _ _ _ (T18.setTop (mkF m 165 #[.val (.long j1), .second, .val (.int i1), .val (.long u1), .second, .val (.long u2), .second, .val (.long u3), .second, .val (.ref b), .val (.long lim), .second, .val (.int (1 : Int32)), .val (.int (if lim < u1 then (0 : Int32) else 1)), .val (.long u1), .second, .val (.int (if lim < (u1 + u2) then (0 : Int32) else 1)), .val (.long (u1 + u2)), .second, .val (.int (if lim < ((u1 + u2) + u3) then (0 : Int32) else 1)), .val (.long ((u1 + u2) + u3)), .second] [(.int (if lim < ((u1 + u2) + u3) then (0 : Int32) else 1))]))
          refine own_via (fun _ k => XS.iconst X18.here hx rfl (hb hby at_165) k) ?_
          show own_G _ _ _ _ (T18.setTop (mkF m 166 #[.val (.long j1), .second, .val (.int i1), .val (.long u1), .second, .val (.long u2), .second, .val (.long u3), .second, .val (.ref b), .val (.long lim), .second, .val (.int (1 : Int32)), .val (.int (if lim < u1 then (0 : Int32) else 1)), .val (.long u1), .second, .val (.int (if lim < (u1 + u2) then (0 : Int32) else 1)), .val (.long (u1 + u2)), .second, .val (.int (if lim < ((u1 + u2) + u3) then (0 : Int32) else 1)), .val (.long ((u1 + u2) + u3)), .second] [(.int (0 : Int32)), (.int (if lim < ((u1 + u2) + u3) then (0 : Int32) else 1))]))
          exact kk ((0 : Int32)) (by simp [hc])
        · refine own_via (fun _ k => XS.ifNo X18.here hx rfl (hb hby at_158) rfl ((if0 _ _).trans (flt (fun z => hc ((lw_gt _ _).mp z))).2.2.1) k) ?_
          show own_G _ _ _ _ (T18.setTop (mkF m 161 #[.val (.long j1), .second, .val (.int i1), .val (.long u1), .second, .val (.long u2), .second, .val (.long u3), .second, .val (.ref b), .val (.long lim), .second, .val (.int (1 : Int32)), .val (.int (if lim < u1 then (0 : Int32) else 1)), .val (.long u1), .second, .val (.int (if lim < (u1 + u2) then (0 : Int32) else 1)), .val (.long (u1 + u2)), .second, .val (.int (if lim < ((u1 + u2) + u3) then (0 : Int32) else 1)), .val (.long ((u1 + u2) + u3)), .second] [(.int (if lim < ((u1 + u2) + u3) then (0 : Int32) else 1))]))
          refine own_via (fun _ k => XS.iconst X18.here hx rfl (hb hby at_161) k) ?_
          show own_G _ _ _ _ (T18.setTop (mkF m 162 #[.val (.long j1), .second, .val (.int i1), .val (.long u1), .second, .val (.long u2), .second, .val (.long u3), .second, .val (.ref b), .val (.long lim), .second, .val (.int (1 : Int32)), .val (.int (if lim < u1 then (0 : Int32) else 1)), .val (.long u1), .second, .val (.int (if lim < (u1 + u2) then (0 : Int32) else 1)), .val (.long (u1 + u2)), .second, .val (.int (if lim < ((u1 + u2) + u3) then (0 : Int32) else 1)), .val (.long ((u1 + u2) + u3)), .second] [(.int (1 : Int32)), (.int (if lim < ((u1 + u2) + u3) then (0 : Int32) else 1))]))
          refine own_via (fun _ k => XS.goto X18.here hx rfl (pc0 := 162) (pc' := 166) rfl (hb hby at_162) (by decide) (by decide) k) ?_
          show own_G _ _ _ _ (T18.setTop (mkF m 166 #[.val (.long j1), .second, .val (.int i1), .val (.long u1), .second, .val (.long u2), .second, .val (.long u3), .second, .val (.ref b), .val (.long lim), .second, .val (.int (1 : Int32)), .val (.int (if lim < u1 then (0 : Int32) else 1)), .val (.long u1), .second, .val (.int (if lim < (u1 + u2) then (0 : Int32) else 1)), .val (.long (u1 + u2)), .second, .val (.int (if lim < ((u1 + u2) + u3) then (0 : Int32) else 1)), .val (.long ((u1 + u2) + u3)), .second] [(.int (1 : Int32)), (.int (if lim < ((u1 + u2) + u3) then (0 : Int32) else 1))]))
          exact kk ((1 : Int32)) (by simp [hc])
      · obtain ⟨z, rfl⟩ : ∃ z, z = q := ⟨_, rfl⟩
        have hq : z = (if lim < ((u1 + u2) + u3) then (0 : Int32) else 1) := hq
        show own_G _ _ _ _ (T18.setTop (mkF m 166 #[.val (.long j1), .second, .val (.int i1), .val (.long u1), .second, .val (.long u2), .second, .val (.long u3), .second, .val (.ref b), .val (.long lim), .second, .val (.int (1 : Int32)), .val (.int (if lim < u1 then (0 : Int32) else 1)), .val (.long u1), .second, .val (.int (if lim < (u1 + u2) then (0 : Int32) else 1)), .val (.long (u1 + u2)), .second, .val (.int (if lim < ((u1 + u2) + u3) then (0 : Int32) else 1)), .val (.long ((u1 + u2) + u3)), .second] [(.int z), (.int (if lim < ((u1 + u2) + u3) then (0 : Int32) else 1))]))
        refine own_via (fun _ k => XS.icmpNo X18.here hx rfl (hb hby at_166) rfl (teq hq.symm).2 k) ?_
        show own_G _ _ _ _ (T18.setTop (mkF m 169 #[.val (.long j1), .second, .val (.int i1), .val (.long u1), .second, .val (.long u2), .second, .val (.long u3), .second, .val (.ref b), .val (.long lim), .second, .val (.int (1 : Int32)), .val (.int (if lim < u1 then (0 : Int32) else 1)), .val (.long u1), .second, .val (.int (if lim < (u1 + u2) then (0 : Int32) else 1)), .val (.long (u1 + u2)), .second, .val (.int (if lim < ((u1 + u2) + u3) then (0 : Int32) else 1)), .val (.long ((u1 + u2) + u3)), .second] []))
        refine own_via (fun _ k => XS.aload X18.here hx rfl (hb hby at_169) rfl rfl k) ?_
        show own_G _ _ _ _ (T18.setTop (mkF m 171 #[.val (.long j1), .second, .val (.int i1), .val (.long u1), .second, .val (.long u2), .second, .val (.long u3), .second, .val (.ref b), .val (.long lim), .second, .val (.int (1 : Int32)), .val (.int (if lim < u1 then (0 : Int32) else 1)), .val (.long u1), .second, .val (.int (if lim < (u1 + u2) then (0 : Int32) else 1)), .val (.long (u1 + u2)), .second, .val (.int (if lim < ((u1 + u2) + u3) then (0 : Int32) else 1)), .val (.long ((u1 + u2) + u3)), .second] [(.ref b)]))
        obtain ⟨cq19, kq19, q19a, q19b, q19c⟩ := isOf hZ rfl E_b
        obtain ⟨_, _, ⟨T19, L19, k19, n19⟩, -, X19, ⟨Lc19, hQ19, l19, y19, z19⟩, st19⟩ := X18.virtualBack hx (y := (⟨"com/example/waning_versions/waningversions/service/WorkBudget", "spent", "()J"⟩ : MethodName)) (z := (⟨"com/example/waning_versions/waningversions/service/WorkBudget", "spent", "()J"⟩ : MethodName)) hown (mvT hZ (hw _ (List.mem_of_getElem? (i := 30) rfl))) (mvT hZ (hw _ (List.mem_of_getElem? (i := 31) rfl))) (notFace_of_selects (args := #[]) (mvT hZ (hw _ (List.mem_of_getElem? (i := 33) rfl)))) (mvT hZ (hw _ (List.mem_of_getElem? (i := 33) rfl))) (mvT hZ (hw _ (List.mem_of_getElem? (i := 32) rfl))) (by decide) (backOf (W := 0) (rm4 l Z a0 hw [] b ((u1 + u2) + u3) T18.heap n0 Z0 F_b_spent) hZ (hw _ (List.mem_of_getElem? (i := 34) rfl)) (hw _ (List.mem_of_getElem? (i := 2) rfl)) (by decide) (by decide)) q19a q19c (g := (mkF m 171 #[.val (.long j1), .second, .val (.int i1), .val (.long u1), .second, .val (.long u2), .second, .val (.long u3), .second, .val (.ref b), .val (.long lim), .second, .val (.int (1 : Int32)), .val (.int (if lim < u1 then (0 : Int32) else 1)), .val (.long u1), .second, .val (.int (if lim < (u1 + u2) then (0 : Int32) else 1)), .val (.long (u1 + u2)), .second, .val (.int (if lim < ((u1 + u2) + u3) then (0 : Int32) else 1)), .val (.long ((u1 + u2) + u3)), .second] [(.ref b)])) rfl (by rw [hml]; rfl) (Steps.refl _) (argsL := []) (rest := []) (lenOf pd_2 rfl) rfl (by show 2 * 0 + _ ≤ _; exact Nat.le_of_eq rfl) (hb hby at_171) (fun _ _ => ⟨rfl, rfl, Nat.le_of_ble_eq_true rfl, Nat.le_of_ble_eq_true rfl⟩)
        dsimp only [Pt.U, Pt.locs, Pt.cells, Pt.slots] at X19 l19 y19 z19 st19 hQ19
        subst l19 y19 z19
        obtain ⟨rfl, N19q, e19⟩ := hQ19
        have N19 := Fr.app N18 N19q
        refine own_via (fun _ kt => st19.trans kt) ?_
        show own_G _ _ _ _ (T19.setTop (mkF m 174 #[.val (.long j1), .second, .val (.int i1), .val (.long u1), .second, .val (.long u2), .second, .val (.long u3), .second, .val (.ref b), .val (.long lim), .second, .val (.int (1 : Int32)), .val (.int (if lim < u1 then (0 : Int32) else 1)), .val (.long u1), .second, .val (.int (if lim < (u1 + u2) then (0 : Int32) else 1)), .val (.long (u1 + u2)), .second, .val (.int (if lim < ((u1 + u2) + u3) then (0 : Int32) else 1)), .val (.long ((u1 + u2) + u3)), .second] [(.long ((u1 + u2) + u3))]))
        refine own_via (fun _ k => XS.lload X19.here hx rfl (hb hby at_174) rfl k) ?_
        show own_G _ _ _ _ (T19.setTop (mkF m 176 #[.val (.long j1), .second, .val (.int i1), .val (.long u1), .second, .val (.long u2), .second, .val (.long u3), .second, .val (.ref b), .val (.long lim), .second, .val (.int (1 : Int32)), .val (.int (if lim < u1 then (0 : Int32) else 1)), .val (.long u1), .second, .val (.int (if lim < (u1 + u2) then (0 : Int32) else 1)), .val (.long (u1 + u2)), .second, .val (.int (if lim < ((u1 + u2) + u3) then (0 : Int32) else 1)), .val (.long ((u1 + u2) + u3)), .second] [(.long ((u1 + u2) + u3)), (.long ((u1 + u2) + u3))]))
        refine own_via (fun _ k => XS.lcmp X19.here hx rfl (hb hby at_176) rfl k) ?_
        show own_G _ _ _ _ (T19.setTop (mkF m 177 #[.val (.long j1), .second, .val (.int i1), .val (.long u1), .second, .val (.long u2), .second, .val (.long u3), .second, .val (.ref b), .val (.long lim), .second, .val (.int (1 : Int32)), .val (.int (if lim < u1 then (0 : Int32) else 1)), .val (.long u1), .second, .val (.int (if lim < (u1 + u2) then (0 : Int32) else 1)), .val (.long (u1 + u2)), .second, .val (.int (if lim < ((u1 + u2) + u3) then (0 : Int32) else 1)), .val (.long ((u1 + u2) + u3)), .second] [(.int (lcmpW ((u1 + u2) + u3) ((u1 + u2) + u3)))]))
        refine own_via (fun _ k => XS.ifNo X19.here hx rfl (hb hby at_177) rfl ((if0 _ _).trans (teq ((lw_eq _ _).mpr rfl)).2) k) ?_
        show own_G _ _ _ _ (T19.setTop (mkF m 180 #[.val (.long j1), .second, .val (.int i1), .val (.long u1), .second, .val (.long u2), .second, .val (.long u3), .second, .val (.ref b), .val (.long lim), .second, .val (.int (1 : Int32)), .val (.int (if lim < u1 then (0 : Int32) else 1)), .val (.long u1), .second, .val (.int (if lim < (u1 + u2) then (0 : Int32) else 1)), .val (.long (u1 + u2)), .second, .val (.int (if lim < ((u1 + u2) + u3) then (0 : Int32) else 1)), .val (.long ((u1 + u2) + u3)), .second] []))
        refine own_via (fun _ k => XS.iconst X19.here hx rfl (hb hby at_180) k) ?_
        show own_G _ _ _ _ (T19.setTop (mkF m 181 #[.val (.long j1), .second, .val (.int i1), .val (.long u1), .second, .val (.long u2), .second, .val (.long u3), .second, .val (.ref b), .val (.long lim), .second, .val (.int (1 : Int32)), .val (.int (if lim < u1 then (0 : Int32) else 1)), .val (.long u1), .second, .val (.int (if lim < (u1 + u2) then (0 : Int32) else 1)), .val (.long (u1 + u2)), .second, .val (.int (if lim < ((u1 + u2) + u3) then (0 : Int32) else 1)), .val (.long ((u1 + u2) + u3)), .second] [(.int (1 : Int32))]))
        refine own_via (fun _ k => XS.goto X19.here hx rfl (pc0 := 181) (pc' := 185) rfl (hb hby at_181) (by decide) (by decide) k) ?_
        show own_G _ _ _ _ (T19.setTop (mkF m 185 #[.val (.long j1), .second, .val (.int i1), .val (.long u1), .second, .val (.long u2), .second, .val (.long u3), .second, .val (.ref b), .val (.long lim), .second, .val (.int (1 : Int32)), .val (.int (if lim < u1 then (0 : Int32) else 1)), .val (.long u1), .second, .val (.int (if lim < (u1 + u2) then (0 : Int32) else 1)), .val (.long (u1 + u2)), .second, .val (.int (if lim < ((u1 + u2) + u3) then (0 : Int32) else 1)), .val (.long ((u1 + u2) + u3)), .second] [(.int (1 : Int32))]))
        refine own_via (fun _ k => XS.istore X19.here hx rfl (hb hby at_185) rfl (l' := #[.val (.long j1), .second, .val (.int i1), .val (.long u1), .second, .val (.long u2), .second, .val (.long u3), .second, .val (.ref b), .val (.long lim), .second, .val (.int (1 : Int32)), .val (.int (if lim < u1 then (0 : Int32) else 1)), .val (.long u1), .second, .val (.int (if lim < (u1 + u2) then (0 : Int32) else 1)), .val (.long (u1 + u2)), .second, .val (.int (if lim < ((u1 + u2) + u3) then (0 : Int32) else 1)), .val (.long ((u1 + u2) + u3)), .second]) rfl k) ?_
        show own_G _ _ _ _ (T19.setTop (mkF m 187 #[.val (.long j1), .second, .val (.int i1), .val (.long u1), .second, .val (.long u2), .second, .val (.long u3), .second, .val (.ref b), .val (.long lim), .second, .val (.int (1 : Int32)), .val (.int (if lim < u1 then (0 : Int32) else 1)), .val (.long u1), .second, .val (.int (if lim < (u1 + u2) then (0 : Int32) else 1)), .val (.long (u1 + u2)), .second, .val (.int (if lim < ((u1 + u2) + u3) then (0 : Int32) else 1)), .val (.long ((u1 + u2) + u3)), .second] []))
        refine own_via (fun _ k => XS.iload X19.here hx rfl (hb hby at_187) rfl k) ?_
        show own_G _ _ _ _ (T19.setTop (mkF m 189 #[.val (.long j1), .second, .val (.int i1), .val (.long u1), .second, .val (.long u2), .second, .val (.long u3), .second, .val (.ref b), .val (.long lim), .second, .val (.int (1 : Int32)), .val (.int (if lim < u1 then (0 : Int32) else 1)), .val (.long u1), .second, .val (.int (if lim < (u1 + u2) then (0 : Int32) else 1)), .val (.long (u1 + u2)), .second, .val (.int (if lim < ((u1 + u2) + u3) then (0 : Int32) else 1)), .val (.long ((u1 + u2) + u3)), .second] [(.int (1 : Int32))]))
        refine own_via (fun _ k => XS.ifNo X19.here hx rfl (hb hby at_189) rfl ((if0 _ _).trans (feq (by decide)).1) k) ?_
        show own_G _ _ _ _ (T19.setTop (mkF m 192 #[.val (.long j1), .second, .val (.int i1), .val (.long u1), .second, .val (.long u2), .second, .val (.long u3), .second, .val (.ref b), .val (.long lim), .second, .val (.int (1 : Int32)), .val (.int (if lim < u1 then (0 : Int32) else 1)), .val (.long u1), .second, .val (.int (if lim < (u1 + u2) then (0 : Int32) else 1)), .val (.long (u1 + u2)), .second, .val (.int (if lim < ((u1 + u2) + u3) then (0 : Int32) else 1)), .val (.long ((u1 + u2) + u3)), .second] []))
        refine own_via (fun _ k => XS.aload X19.here hx rfl (hb hby at_192) rfl rfl k) ?_
        show own_G _ _ _ _ (T19.setTop (mkF m 194 #[.val (.long j1), .second, .val (.int i1), .val (.long u1), .second, .val (.long u2), .second, .val (.long u3), .second, .val (.ref b), .val (.long lim), .second, .val (.int (1 : Int32)), .val (.int (if lim < u1 then (0 : Int32) else 1)), .val (.long u1), .second, .val (.int (if lim < (u1 + u2) then (0 : Int32) else 1)), .val (.long (u1 + u2)), .second, .val (.int (if lim < ((u1 + u2) + u3) then (0 : Int32) else 1)), .val (.long ((u1 + u2) + u3)), .second] [(.ref b)]))
        obtain ⟨cq20, kq20, q20a, q20b, q20c⟩ := isOf hZ e19 E_b
        obtain ⟨_, _, ⟨T20, L20, k20, n20⟩, -, X20, ⟨Lc20, hQ20, l20, y20, z20⟩, st20⟩ := X19.virtualBack hx (y := (⟨"com/example/waning_versions/waningversions/service/WorkBudget", "limit", "()J"⟩ : MethodName)) (z := (⟨"com/example/waning_versions/waningversions/service/WorkBudget", "limit", "()J"⟩ : MethodName)) hown (mvT hZ (hw _ (List.mem_of_getElem? (i := 18) rfl))) (mvT hZ (hw _ (List.mem_of_getElem? (i := 19) rfl))) (notFace_of_selects (args := #[]) (mvT hZ (hw _ (List.mem_of_getElem? (i := 21) rfl)))) (mvT hZ (hw _ (List.mem_of_getElem? (i := 21) rfl))) (mvT hZ (hw _ (List.mem_of_getElem? (i := 20) rfl))) (by decide) (backOf (W := 0) (rm3 l Z a0 hw [] b lim T18.heap n0 Z0 F_b_limit) hZ (hw _ (List.mem_of_getElem? (i := 22) rfl)) (hw _ (List.mem_of_getElem? (i := 2) rfl)) (by decide) (by decide)) q20a q20c (g := (mkF m 194 #[.val (.long j1), .second, .val (.int i1), .val (.long u1), .second, .val (.long u2), .second, .val (.long u3), .second, .val (.ref b), .val (.long lim), .second, .val (.int (1 : Int32)), .val (.int (if lim < u1 then (0 : Int32) else 1)), .val (.long u1), .second, .val (.int (if lim < (u1 + u2) then (0 : Int32) else 1)), .val (.long (u1 + u2)), .second, .val (.int (if lim < ((u1 + u2) + u3) then (0 : Int32) else 1)), .val (.long ((u1 + u2) + u3)), .second] [(.ref b)])) rfl (by rw [hml]; rfl) (Steps.refl _) (argsL := []) (rest := []) (lenOf pd_2 rfl) rfl (by show 2 * 0 + _ ≤ _; exact Nat.le_of_eq rfl) (hb hby at_194) (fun _ _ => ⟨rfl, e19, Nat.le_of_ble_eq_true rfl, Nat.le_of_ble_eq_true rfl⟩)
        dsimp only [Pt.U, Pt.locs, Pt.cells, Pt.slots] at X20 l20 y20 z20 st20 hQ20
        subst l20 y20 z20
        obtain ⟨rfl, N20q, e20⟩ := hQ20
        have N20 := Fr.app N19 N20q
        refine own_via (fun _ kt => st20.trans kt) ?_
        show own_G _ _ _ _ (T20.setTop (mkF m 197 #[.val (.long j1), .second, .val (.int i1), .val (.long u1), .second, .val (.long u2), .second, .val (.long u3), .second, .val (.ref b), .val (.long lim), .second, .val (.int (1 : Int32)), .val (.int (if lim < u1 then (0 : Int32) else 1)), .val (.long u1), .second, .val (.int (if lim < (u1 + u2) then (0 : Int32) else 1)), .val (.long (u1 + u2)), .second, .val (.int (if lim < ((u1 + u2) + u3) then (0 : Int32) else 1)), .val (.long ((u1 + u2) + u3)), .second] [(.long lim)]))
        refine own_via (fun _ k => XS.lload X20.here hx rfl (hb hby at_197) rfl k) ?_
        show own_G _ _ _ _ (T20.setTop (mkF m 199 #[.val (.long j1), .second, .val (.int i1), .val (.long u1), .second, .val (.long u2), .second, .val (.long u3), .second, .val (.ref b), .val (.long lim), .second, .val (.int (1 : Int32)), .val (.int (if lim < u1 then (0 : Int32) else 1)), .val (.long u1), .second, .val (.int (if lim < (u1 + u2) then (0 : Int32) else 1)), .val (.long (u1 + u2)), .second, .val (.int (if lim < ((u1 + u2) + u3) then (0 : Int32) else 1)), .val (.long ((u1 + u2) + u3)), .second] [(.long lim), (.long lim)]))
        refine own_via (fun _ k => XS.lcmp X20.here hx rfl (hb hby at_199) rfl k) ?_
        show own_G _ _ _ _ (T20.setTop (mkF m 200 #[.val (.long j1), .second, .val (.int i1), .val (.long u1), .second, .val (.long u2), .second, .val (.long u3), .second, .val (.ref b), .val (.long lim), .second, .val (.int (1 : Int32)), .val (.int (if lim < u1 then (0 : Int32) else 1)), .val (.long u1), .second, .val (.int (if lim < (u1 + u2) then (0 : Int32) else 1)), .val (.long (u1 + u2)), .second, .val (.int (if lim < ((u1 + u2) + u3) then (0 : Int32) else 1)), .val (.long ((u1 + u2) + u3)), .second] [(.int (lcmpW lim lim))]))
        refine own_via (fun _ k => XS.ifNo X20.here hx rfl (hb hby at_200) rfl ((if0 _ _).trans (teq ((lw_eq _ _).mpr rfl)).2) k) ?_
        show own_G _ _ _ _ (T20.setTop (mkF m 203 #[.val (.long j1), .second, .val (.int i1), .val (.long u1), .second, .val (.long u2), .second, .val (.long u3), .second, .val (.ref b), .val (.long lim), .second, .val (.int (1 : Int32)), .val (.int (if lim < u1 then (0 : Int32) else 1)), .val (.long u1), .second, .val (.int (if lim < (u1 + u2) then (0 : Int32) else 1)), .val (.long (u1 + u2)), .second, .val (.int (if lim < ((u1 + u2) + u3) then (0 : Int32) else 1)), .val (.long ((u1 + u2) + u3)), .second] []))
        refine own_via (fun _ k => XS.iconst X20.here hx rfl (hb hby at_203) k) ?_
        show own_G _ _ _ _ (T20.setTop (mkF m 204 #[.val (.long j1), .second, .val (.int i1), .val (.long u1), .second, .val (.long u2), .second, .val (.long u3), .second, .val (.ref b), .val (.long lim), .second, .val (.int (1 : Int32)), .val (.int (if lim < u1 then (0 : Int32) else 1)), .val (.long u1), .second, .val (.int (if lim < (u1 + u2) then (0 : Int32) else 1)), .val (.long (u1 + u2)), .second, .val (.int (if lim < ((u1 + u2) + u3) then (0 : Int32) else 1)), .val (.long ((u1 + u2) + u3)), .second] [(.int (1 : Int32))]))
        refine own_via (fun _ k => XS.goto X20.here hx rfl (pc0 := 204) (pc' := 208) rfl (hb hby at_204) (by decide) (by decide) k) ?_
        show own_G _ _ _ _ (T20.setTop (mkF m 208 #[.val (.long j1), .second, .val (.int i1), .val (.long u1), .second, .val (.long u2), .second, .val (.long u3), .second, .val (.ref b), .val (.long lim), .second, .val (.int (1 : Int32)), .val (.int (if lim < u1 then (0 : Int32) else 1)), .val (.long u1), .second, .val (.int (if lim < (u1 + u2) then (0 : Int32) else 1)), .val (.long (u1 + u2)), .second, .val (.int (if lim < ((u1 + u2) + u3) then (0 : Int32) else 1)), .val (.long ((u1 + u2) + u3)), .second] [(.int (1 : Int32))]))
        refine own_via (fun _ k => XS.istore X20.here hx rfl (hb hby at_208) rfl (l' := #[.val (.long j1), .second, .val (.int i1), .val (.long u1), .second, .val (.long u2), .second, .val (.long u3), .second, .val (.ref b), .val (.long lim), .second, .val (.int (1 : Int32)), .val (.int (if lim < u1 then (0 : Int32) else 1)), .val (.long u1), .second, .val (.int (if lim < (u1 + u2) then (0 : Int32) else 1)), .val (.long (u1 + u2)), .second, .val (.int (if lim < ((u1 + u2) + u3) then (0 : Int32) else 1)), .val (.long ((u1 + u2) + u3)), .second]) rfl k) ?_
        show own_G _ _ _ _ (T20.setTop (mkF m 210 #[.val (.long j1), .second, .val (.int i1), .val (.long u1), .second, .val (.long u2), .second, .val (.long u3), .second, .val (.ref b), .val (.long lim), .second, .val (.int (1 : Int32)), .val (.int (if lim < u1 then (0 : Int32) else 1)), .val (.long u1), .second, .val (.int (if lim < (u1 + u2) then (0 : Int32) else 1)), .val (.long (u1 + u2)), .second, .val (.int (if lim < ((u1 + u2) + u3) then (0 : Int32) else 1)), .val (.long ((u1 + u2) + u3)), .second] []))
        refine own_via (fun _ k => XS.iload X20.here hx rfl (hb hby at_210) rfl k) ?_
        show own_G _ _ _ _ (T20.setTop (mkF m 212 #[.val (.long j1), .second, .val (.int i1), .val (.long u1), .second, .val (.long u2), .second, .val (.long u3), .second, .val (.ref b), .val (.long lim), .second, .val (.int (1 : Int32)), .val (.int (if lim < u1 then (0 : Int32) else 1)), .val (.long u1), .second, .val (.int (if lim < (u1 + u2) then (0 : Int32) else 1)), .val (.long (u1 + u2)), .second, .val (.int (if lim < ((u1 + u2) + u3) then (0 : Int32) else 1)), .val (.long ((u1 + u2) + u3)), .second] [(.int (1 : Int32))]))
        obtain ⟨fs, hr, hrun, hended, hW, hsame⟩ := X20.leave (v := some (.int (1 : Int32))) (fun h => by rw [Bd.returns] at h; cases h)
        exact ⟨_, _, retN X20 hx (t := .boolean) Bd.returns (by simp) (hb hby at_212) hr, hrun, hended, _, _, rfl, ⟨rfl, N20⟩, ⟨_, rfl⟩, hW, hsame.mono (by decide) (by decide)⟩
set_option maxRecDepth 65536 in
set_option maxHeartbeats 40000000 in
theorem comes_1 {Post : Tables → Env → Array Value → State → Outcome → State → Prop} (hpost : ∀ tb e args s v u, (limb_1_1.after args s (.returned v) u = true ∧ limb_1_2.after args s (.returned v) u = true ∧ True) → FrameEnd s (.returned v) u (Jvm.fieldLocs frame_1_writes args s ++ Jvm.arrayLocs frame_1_arrays args s ++ Jvm.staticLocs frame_1_statics s) 16 128 → Post tb e args s (.returned v) u) :
    ArmFor flags0 classFile x code maxLocals ret World_1 tables_1 room_1 Calls_1 rest_1 Pre_1 Post := by
  intro l hfl _ _ p e ha hc hk s m args below hf hA hF happ hP
  obtain ⟨hcalls, hrest, hpre⟩ := hP
  obtain ⟨-, -, -, hnamed, -, -, -, hat⟩ := (Spec.applies_iff hf).mp happ
  have hall := flat_of_before _ (show (Jvm.Cond.and given_1 narrow_1).before args s = true from hpre)
  have hKK : own_Kinds [.long, .int, .long, .long, .long] args := by
    refine own_Kinds_of (s := s) ?_ fun q hq => hall q ?_
    · have := hall (.count 5) (by simp [flatC, given_1])
      simpa [Cond.before, Cond.holds, Cond.value] using this
    · have hf : flatC (Jvm.Cond.and given_1 narrow_1) = .count 5 :: (Jvm.Sym.sorts 0 [.long, .int, .long, .long, .long] ++ flatC narrow_1) := rfl
      rw [hf]; exact List.mem_cons_of_mem _ (List.mem_append_left _ hq)
  obtain ⟨v0, v1, v2, v3, v4, rfl, q0, q1, q2, q3, q4⟩ := own_k5 hKK
  obtain ⟨j1, rfl⟩ := own_long q0
  obtain ⟨i1, rfl⟩ := own_int q1
  obtain ⟨u1, rfl⟩ := own_long q2
  obtain ⟨u2, rfl⟩ := own_long q3
  obtain ⟨u3, rfl⟩ := own_long q4
  have hw := fun d (hd : d ∈ tables_1) => atoms_spec (ws := Jvm.Cond.code x code maxLocals ret :: tables_1) hat d (List.mem_cons_of_mem _ hd)
  obtain ⟨n, o, h1, h2, h3, _, L, rfl, ⟨rfl, N⟩, hq⟩ := rm0 l s _ hw tables_1 j1 i1 u1 u2 u3 s.heap s.heap.size (Nat.le_refl _)  p e ha hc hk s m _ below hf ((Spec.applies_iff_loose hf).mp happ).1 ⟨rfl, State.Warmed39.refl s, rfl⟩ trivial
  refine ⟨n, _, h1, h2, h3, hpost _ _ _ _ _ _ ⟨Cond.after_iff.mpr rfl, Cond.after_iff.mpr (eq_i res_at (Term.int_eval (1)) rfl), trivial⟩ ⟨hq.1, hq.2.1, (hq.2.2.sift fun y hy => Or.inr (N y hy)).mono (by decide) (by decide)⟩⟩
theorem main_1_1 : Claimed_1_1 := comes_1 fun _ _ _ _ _ _ h hF => ⟨h.1, hF⟩
theorem main_1_2 : Claimed_1_2 := comes_1 fun _ _ _ _ _ _ h hF => ⟨h.2.1, hF⟩
end Jvm.Pilot.@@N@@
namespace Jvm.Pilot.@@N@@
open Jvm Jvm.ClassFile Sem Op Lib Jvm.Free Jvm.Stand Jvm.Pilot.@@N@@.Jvm.D
/-! MADE BY PROGRAM (witnessworld.py) out of the Statement's table words and the real class files: 10 classes; the members and pool entries that the words name. The judged class is class 1, her method 1. -/
namespace start1
open Jvm.ClassFile
def u (s : String) : CpInfo := .utf8 (stringToUtf16 s)
/-- a pool by its gaps: so many unusable entries, then the entry; so many at the end -/
def gap : Nat → List CpInfo → List CpInfo
  | 0, r => r
  | n + 1, r => .unusable :: gap n r
def poolList (es : List (Nat × CpInfo)) (last : Nat) : List CpInfo := es.foldr (fun e r => gap e.1 (e.2 :: r)) (gap last [])
def pool (es : List (Nat × CpInfo)) (last : Nat) : Array CpInfo := ⟨poolList es last⟩
def fileOf (pool : Array CpInfo) (this : Nat) (attrs : Array Attribute := #[]) (ms : Array MethodInfo := #[]) (fl : Nat := 33) (sup : Nat := 0) (ifs : Array Nat := #[]) (fds : Array FieldInfo := #[]) : ClassFile where
  minorVersion := 0
  majorVersion := 65
  constantPool := pool
  accessFlags := fl
  thisClass := this
  superClass := sup
  interfaces := ifs
  fields := fds
  methods := ms
  attributes := attrs
def plain (name : String) (sup : Option ClassId) : Class where
  name := name
  kind := .ordinary
  loader := none
  accessFlags := 33
  super := sup
  interfaces := #[]
  cf := none
  fields := #[]
  methods := #[]
  instanceTypes := #[]
  staticTypes := #[]
  resolved := #[]
  callSites := []
  init := .initialized
  statics := none
  mirror := none

def pool0 : Array CpInfo := pool [(5, u "<init>"), (0, u "()V"), (1, .class_ 10), (1, u "java/lang/Object")] 113

def k0c0 : Code := { maxStack := 0, maxLocals := 1, code := object_method_1_code, exceptionTable := #[], attributes := #[] }
def k0m0 : Method := { name := "<init>", desc := "()V", sig := { parameters := [], returnType := none }, accessFlags := 1, code := some k0c0 }
/-- java/lang/Object -/
def k0 : Class := { plain "java/lang/Object" none with
  accessFlags := 33
  interfaces := #[]
  cf := some (fileOf pool0 8 #[] #[{ accessFlags := 1, nameIndex := 5, descriptorIndex := 6, attributes := #[] }] 33 0 #[] #[])
  fields := #[]
  methods := #[k0m0]
  instanceTypes := #[]
  staticTypes := #[]
  resolved := Array.replicate 124 none
  statics := none }

def pool1 : Array CpInfo := pool [(2, .class_ 4), (1, u "java/lang/Object"), (0, u "<init>"), (0, u "()V"), (0, .class_ 8), (0, u "com/example/waning_versions/waningversions/service/WorkBudget"), (0, .methodref 7 10), (0, .nameAndType 5 11), (0, u "(JI)V"), (0, .methodref 7 13), (0, .nameAndType 14 15), (0, u "limit"), (0, u "()J"), (0, .methodref 7 17), (0, .nameAndType 18 19), (0, u "spend"), (0, u "(J)Z"), (0, .methodref 7 21), (0, .nameAndType 22 15), (0, u "spent"), (0, .class_ 24), (0, u "com/example/waning_versions/waningversions/service/WorkBudgetSpendPinLaw"), (2, u "law"), (0, u "(JIJJJ)Z")] 3

def k1m0 : Method := { name := "<init>", desc := "()V", sig := { parameters := [], returnType := none }, accessFlags := 1, code := none }
def k1c1 : Code := { maxStack := 5, maxLocals := 22, code := code, exceptionTable := #[], attributes := #[] }
def k1m1 : Method := { name := "law", desc := "(JIJJJ)Z", sig := { parameters := [.long, .int, .long, .long, .long], returnType := some .boolean }, accessFlags := 9, code := some k1c1 }
/-- com/example/waning_versions/waningversions/service/WorkBudgetSpendPinLaw -/
def k1 : Class := { plain "com/example/waning_versions/waningversions/service/WorkBudgetSpendPinLaw" (some 0) with
  accessFlags := 49
  interfaces := #[]
  cf := some (fileOf pool1 23 #[] #[{ accessFlags := 1, nameIndex := 5, descriptorIndex := 6, attributes := #[] }, { accessFlags := 9, nameIndex := 27, descriptorIndex := 28, attributes := #[] }] 49 2 #[] #[])
  fields := #[]
  methods := #[k1m0, k1m1]
  instanceTypes := #[]
  staticTypes := #[]
  resolved := Array.replicate 32 none
  statics := none }

def pool2 : Array CpInfo := pool [(1, .methodref 2 3), (0, .class_ 4), (0, .nameAndType 5 6), (0, u "java/lang/Object"), (0, u "<init>"), (0, u "()V"), (0, .fieldref 8 9), (0, .class_ 10), (0, .nameAndType 11 12), (0, u "com/example/waning_versions/waningversions/service/WorkBudget"), (0, u "size"), (0, u "J"), (0, .long 1048576), (1, .methodref 16 17), (0, .class_ 18), (0, .nameAndType 19 20), (0, u "java/lang/Math"), (0, u "max"), (0, u "(JJ)J"), (0, .fieldref 8 22), (0, .nameAndType 23 12), (0, u "limit"), (0, .fieldref 8 25), (0, .nameAndType 26 12), (0, u "spent"), (0, u "LEAST"), (1, u "(JI)V"), (2, u "()J"), (0, u "spend"), (0, u "(J)Z")] 3

def k2c0 : Code := { maxStack := 7, maxLocals := 4, code := prog_76_method_1_code, exceptionTable := #[], attributes := #[] }
def k2m0 : Method := { name := "<init>", desc := "(JI)V", sig := { parameters := [.long, .int], returnType := none }, accessFlags := 1, code := some k2c0 }
def k2c1 : Code := { maxStack := 2, maxLocals := 1, code := prog_76_method_3_code, exceptionTable := #[], attributes := #[] }
def k2m1 : Method := { name := "limit", desc := "()J", sig := { parameters := [], returnType := some .long }, accessFlags := 1, code := some k2c1 }
def k2c2 : Code := { maxStack := 2, maxLocals := 1, code := prog_76_method_4_code, exceptionTable := #[], attributes := #[] }
def k2m2 : Method := { name := "spent", desc := "()J", sig := { parameters := [], returnType := some .long }, accessFlags := 1, code := some k2c2 }
def k2c3 : Code := { maxStack := 5, maxLocals := 3, code := prog_76_method_5_code, exceptionTable := #[], attributes := #[] }
def k2m3 : Method := { name := "spend", desc := "(J)Z", sig := { parameters := [.long], returnType := some .boolean }, accessFlags := 1, code := some k2c3 }
/-- com/example/waning_versions/waningversions/service/WorkBudget -/
def k2 : Class := { plain "com/example/waning_versions/waningversions/service/WorkBudget" (some 0) with
  accessFlags := 33
  interfaces := #[]
  cf := some (fileOf pool2 8 #[] #[{ accessFlags := 1, nameIndex := 5, descriptorIndex := 29, attributes := #[] }, { accessFlags := 1, nameIndex := 23, descriptorIndex := 32, attributes := #[] }, { accessFlags := 1, nameIndex := 26, descriptorIndex := 32, attributes := #[] }, { accessFlags := 1, nameIndex := 33, descriptorIndex := 34, attributes := #[] }] 33 2 #[] #[{ accessFlags := 25, nameIndex := 27, descriptorIndex := 12, attributes := #[] }, { accessFlags := 18, nameIndex := 11, descriptorIndex := 12, attributes := #[] }, { accessFlags := 18, nameIndex := 23, descriptorIndex := 12, attributes := #[] }, { accessFlags := 2, nameIndex := 26, descriptorIndex := 12, attributes := #[] }])
  fields := #[{ name := "LEAST", type := .long, accessFlags := 25, slot := 0, constantValue := 0 }, { name := "size", type := .long, accessFlags := 18, slot := 0, constantValue := 0 }, { name := "limit", type := .long, accessFlags := 18, slot := 1, constantValue := 0 }, { name := "spent", type := .long, accessFlags := 2, slot := 2, constantValue := 0 }]
  methods := #[k2m0, k2m1, k2m2, k2m3]
  instanceTypes := #[.long, .long, .long]
  staticTypes := #[.long]
  resolved := Array.replicate 38 none
  statics := none }

def pool3 : Array CpInfo := pool [(1, .class_ 2), (0, u "java/lang/Math"), (1, .class_ 6), (1, u "java/lang/Object"), (0, u "<init>"), (0, u "()V"), (89, .class_ 100), (1, u "java/lang/Math$RandomNumberGeneratorHolder"), (20, u "(JJ)J"), (50, u "negativeZeroFloatBits"), (0, u "J"), (2, u "negativeZeroDoubleBits"), (21, u "max"), (46, u "$assertionsDisabled"), (0, u "Z"), (91, u "twoToTheDoubleScaleDown"), (0, u "D"), (4, u "twoToTheDoubleScaleUp"), (9, u "E"), (3, u "PI"), (2, u "TAU"), (2, u "DEGREES_TO_RADIANS"), (0, u "RADIANS_TO_DEGREES")] 94

def k3m0 : Method := { name := "<init>", desc := "()V", sig := { parameters := [], returnType := none }, accessFlags := 2, code := none }
def k3c1 : Code := { maxStack := 4, maxLocals := 4, code := jdk_29_method_66_code, exceptionTable := #[], attributes := #[] }
def k3m1 : Method := { name := "max", desc := "(JJ)J", sig := { parameters := [.long, .long], returnType := some .long }, accessFlags := 9, code := some k3c1 }
/-- java/lang/Math -/
def k3 : Class := { plain "java/lang/Math" (some 0) with
  accessFlags := 49
  interfaces := #[]
  cf := some (fileOf pool3 1 #[.nestMembers #[98]] #[{ accessFlags := 2, nameIndex := 7, descriptorIndex := 8, attributes := #[] }, { accessFlags := 9, nameIndex := 198, descriptorIndex := 121, attributes := #[] }] 49 4 #[] #[{ accessFlags := 25, nameIndex := 354, descriptorIndex := 339, attributes := #[] }, { accessFlags := 25, nameIndex := 358, descriptorIndex := 339, attributes := #[] }, { accessFlags := 25, nameIndex := 361, descriptorIndex := 339, attributes := #[] }, { accessFlags := 26, nameIndex := 364, descriptorIndex := 339, attributes := #[] }, { accessFlags := 26, nameIndex := 365, descriptorIndex := 339, attributes := #[] }, { accessFlags := 26, nameIndex := 172, descriptorIndex := 173, attributes := #[] }, { accessFlags := 26, nameIndex := 176, descriptorIndex := 173, attributes := #[] }, { accessFlags := 8, nameIndex := 344, descriptorIndex := 339, attributes := #[] }, { accessFlags := 8, nameIndex := 338, descriptorIndex := 339, attributes := #[] }, { accessFlags := 4120, nameIndex := 245, descriptorIndex := 246, attributes := #[] }])
  fields := #[{ name := "E", type := .double, accessFlags := 25, slot := 0, constantValue := 0 }, { name := "PI", type := .double, accessFlags := 25, slot := 1, constantValue := 0 }, { name := "TAU", type := .double, accessFlags := 25, slot := 2, constantValue := 0 }, { name := "DEGREES_TO_RADIANS", type := .double, accessFlags := 26, slot := 3, constantValue := 0 }, { name := "RADIANS_TO_DEGREES", type := .double, accessFlags := 26, slot := 4, constantValue := 0 }, { name := "negativeZeroFloatBits", type := .long, accessFlags := 26, slot := 5, constantValue := 0 }, { name := "negativeZeroDoubleBits", type := .long, accessFlags := 26, slot := 6, constantValue := 0 }, { name := "twoToTheDoubleScaleUp", type := .double, accessFlags := 8, slot := 7, constantValue := 0 }, { name := "twoToTheDoubleScaleDown", type := .double, accessFlags := 8, slot := 8, constantValue := 0 }, { name := "$assertionsDisabled", type := .boolean, accessFlags := 4120, slot := 9, constantValue := 0 }]
  methods := #[k3m0, k3m1]
  instanceTypes := #[]
  staticTypes := #[.double, .double, .double, .double, .double, .long, .long, .double, .double, .boolean]
  resolved := Array.replicate 460 none
  statics := none }

def pool4 : Array CpInfo := pool [(1, u "java/lang/Cloneable"), (0, .class_ 1), (0, u "java/lang/Object"), (0, .class_ 3)] 3

/-- java/lang/Cloneable -/
def k4 : Class := { plain "java/lang/Cloneable" (some 0) with
  accessFlags := 1537
  interfaces := #[]
  cf := some (fileOf pool4 2 #[] #[] 1537 4 #[] #[])
  fields := #[]
  methods := #[]
  instanceTypes := #[]
  staticTypes := #[]
  resolved := Array.replicate 8 none
  statics := none }

def pool5 : Array CpInfo := pool [(1, u "java/io/Serializable"), (0, .class_ 1), (0, u "java/lang/Object"), (0, .class_ 3)] 3

/-- java/io/Serializable -/
def k5 : Class := { plain "java/io/Serializable" (some 0) with
  accessFlags := 1537
  interfaces := #[]
  cf := some (fileOf pool5 2 #[] #[] 1537 4 #[] #[])
  fields := #[]
  methods := #[]
  instanceTypes := #[]
  staticTypes := #[]
  resolved := Array.replicate 8 none
  statics := none }

/-- the primitive byte -/
def k6 : Class := { plain "byte" none with kind := .primitive 'B', accessFlags := 0x411 }
/-- [B -/
def k7 : Class := { plain "[B" (some 0) with kind := .array 6 .byte, interfaces := #[4, 5], accessFlags := 1041 }

/-- the primitive int -/
def k8 : Class := { plain "int" none with kind := .primitive 'I', accessFlags := 0x411 }
/-- [I -/
def k9 : Class := { plain "[I" (some 0) with kind := .array 8 .int, interfaces := #[4, 5], accessFlags := 1041 }

def heap : Heap := #[]
def classes : Array Class := #[k0, k1, k2, k3, k4, k5, k6, k7, k8, k9]
def interned : List (Array UInt16 × Addr) := []
def slotsUsed : Nat := 0
def theMethod : MethodId := ⟨1, 1⟩
def args0 : Array Value := #[.long 5, .int 300, .long 7, .long 8, .long 9]
def aboutOver (below : List Frame) : State where
  vm := { classes := classes, interned := interned.toArray }
  heap := heap
  slotsUsed := slotsUsed
  threads := #[{ frames := .invoking theMethod args0 :: below }]
def below0 : List Frame := [.native { method := ⟨0, 0⟩, args := #[] }]
def about1 : State := aboutOver below0
def p0 : Program := .bare "" "" ""
def e0 : Env := launch0.env 0 0 0
theorem w_frames : about1.frames = Frame.invoking theMethod args0 :: below0 := rfl
set_option maxRecDepth 65536 in
theorem w_args : argsFit about1.vm theMethod args0 = true := by decide +kernel
set_option maxRecDepth 65536 in
theorem w_heap : heapFits about1 = true := by decide +kernel
set_option maxRecDepth 65536 in
theorem w_runnable : about1.curStatus? = some .runnable := by decide +kernel
set_option maxRecDepth 65536 in
theorem w_alone : about1.alone = true := by decide +kernel
set_option maxRecDepth 65536 in
theorem w_named : about1.methodNamed? x = some theMethod := by decide +kernel
set_option maxRecDepth 65536 in
theorem w_hears : about1.hears theMethod below0 = true := by decide +kernel
set_option maxRecDepth 65536 in
theorem w_ripe : about1.ripe theMethod args0 below0 = true := by decide +kernel
theorem w_running : about1.status = .running := rfl
set_option maxRecDepth 65536 in
theorem w_room : about1.hasRoom e0.platform room_1 = true :=
  launch0.hasRoom_least _ room_1 (by decide +kernel) (by decide +kernel) (by decide +kernel) (by decide +kernel) (by decide +kernel) (by decide +kernel)
theorem allAtoms_all (ts : List Jvm.Cond) (a : Array Jvm.Value) (st : Jvm.State) : (allAtoms ts).before a st = ts.all (fun c => c.before a st) := by
  induction ts with
  | nil => rfl
  | cons c t ih =>
    show (Jvm.Cond.and c (allAtoms t)).before a st = _
    rw [Jvm.Cond.before_and, ih, List.all_cons]
def words1 : List Jvm.Cond := Jvm.Cond.code x code maxLocals ret :: tables_1
/-- a 'code' word, met by the world's own term for the bytes: nothing is compared byte by byte -/
theorem code_word {y : MethodName} {bytes : ByteArray} {mx : Nat} {rt : Option FieldType} {a : Array Value} {s : State} {m : MethodId} {meth : Method} {c : Code} (h1 : s.methodNamed? y = some m) (h2 : s.vm.method? m = some meth) (h3 : meth.code = some c) (h4 : c.code = bytes)
    (h5 : (c.maxLocals == mx && c.exceptionTable.isEmpty && decide (c.maxStack ≤ mostOperands) && decide (meth.sig.returnType = rt) && !meth.locks && decide (parseMethodDescriptor y.desc = some meth.sig)) = true) : (Jvm.Cond.code y bytes mx rt).before a s = true := by
  simp only [Bool.and_eq_true, beq_iff_eq, Bool.not_eq_true', decide_eq_true_eq] at h5
  obtain ⟨⟨⟨⟨⟨g1, g2⟩, g3⟩, g4⟩, g5⟩, g6⟩ := h5
  simp [Cond.before, Cond.holds, Cond.value, h1, h2, h3, h4, g1, g2, g3, g4, g5, g6]
def isCode : Jvm.Cond → Bool
  | .code _ _ _ _ => true
  | _ => false
theorem all_split {L : List Jvm.Cond} {P : Jvm.Cond → Bool} (h1 : L.all (fun c => isCode c || P c) = true) (h2 : ∀ c ∈ L.filter isCode, P c = true) : L.all P = true := by
  refine List.all_eq_true.mpr fun c hc => ?_
  have h := List.all_eq_true.mp h1 c hc
  rcases Bool.eq_false_or_eq_true (isCode c) with hi | hi
  · exact h2 c (List.mem_filter.mpr ⟨hc, hi⟩)
  · simpa [hi] using h
set_option maxRecDepth 65536 in
theorem w_c0 : (Jvm.Cond.code x code maxLocals ret).before args0 about1 = true := code_word (m := ⟨1, 1⟩) (meth := k1m1) (c := k1c1) (by decide +kernel) rfl rfl rfl (by decide +kernel)
set_option maxRecDepth 65536 in
theorem w_c1 : (Jvm.Cond.code ({ cls := "com/example/waning_versions/waningversions/service/WorkBudget", name := "<init>", desc := "(JI)V" } : Jvm.MethodName) prog_76_method_1_code (4 : Nat) (Option.none : Option Jvm.ClassFile.FieldType)).before args0 about1 = true := code_word (m := ⟨2, 0⟩) (meth := k2m0) (c := k2c0) (by decide +kernel) rfl rfl rfl (by decide +kernel)
set_option maxRecDepth 65536 in
theorem w_c2 : (Jvm.Cond.code ({ cls := "java/lang/Object", name := "<init>", desc := "()V" } : Jvm.MethodName) object_method_1_code (1 : Nat) (Option.none : Option Jvm.ClassFile.FieldType)).before args0 about1 = true := code_word (m := ⟨0, 0⟩) (meth := k0m0) (c := k0c0) (by decide +kernel) rfl rfl rfl (by decide +kernel)
set_option maxRecDepth 65536 in
theorem w_c3 : (Jvm.Cond.code ({ cls := "java/lang/Math", name := "max", desc := "(JJ)J" } : Jvm.MethodName) jdk_29_method_66_code (4 : Nat) (Option.some Jvm.ClassFile.FieldType.long)).before args0 about1 = true := code_word (m := ⟨3, 1⟩) (meth := k3m1) (c := k3c1) (by decide +kernel) rfl rfl rfl (by decide +kernel)
set_option maxRecDepth 65536 in
theorem w_c4 : (Jvm.Cond.code ({ cls := "com/example/waning_versions/waningversions/service/WorkBudget", name := "limit", desc := "()J" } : Jvm.MethodName) prog_76_method_3_code (1 : Nat) (Option.some Jvm.ClassFile.FieldType.long)).before args0 about1 = true := code_word (m := ⟨2, 1⟩) (meth := k2m1) (c := k2c1) (by decide +kernel) rfl rfl rfl (by decide +kernel)
set_option maxRecDepth 65536 in
theorem w_c5 : (Jvm.Cond.code ({ cls := "com/example/waning_versions/waningversions/service/WorkBudget", name := "spend", desc := "(J)Z" } : Jvm.MethodName) prog_76_method_5_code (3 : Nat) (Option.some Jvm.ClassFile.FieldType.boolean)).before args0 about1 = true := code_word (m := ⟨2, 3⟩) (meth := k2m3) (c := k2c3) (by decide +kernel) rfl rfl rfl (by decide +kernel)
set_option maxRecDepth 65536 in
theorem w_c6 : (Jvm.Cond.code ({ cls := "com/example/waning_versions/waningversions/service/WorkBudget", name := "spent", desc := "()J" } : Jvm.MethodName) prog_76_method_4_code (1 : Nat) (Option.some Jvm.ClassFile.FieldType.long)).before args0 about1 = true := code_word (m := ⟨2, 2⟩) (meth := k2m2) (c := k2c2) (by decide +kernel) rfl rfl rfl (by decide +kernel)
def codes1 : List Jvm.Cond := [Jvm.Cond.code x code maxLocals ret, Jvm.Cond.code ({ cls := "com/example/waning_versions/waningversions/service/WorkBudget", name := "<init>", desc := "(JI)V" } : Jvm.MethodName) prog_76_method_1_code (4 : Nat) (Option.none : Option Jvm.ClassFile.FieldType), Jvm.Cond.code ({ cls := "java/lang/Object", name := "<init>", desc := "()V" } : Jvm.MethodName) object_method_1_code (1 : Nat) (Option.none : Option Jvm.ClassFile.FieldType), Jvm.Cond.code ({ cls := "java/lang/Math", name := "max", desc := "(JJ)J" } : Jvm.MethodName) jdk_29_method_66_code (4 : Nat) (Option.some Jvm.ClassFile.FieldType.long), Jvm.Cond.code ({ cls := "com/example/waning_versions/waningversions/service/WorkBudget", name := "limit", desc := "()J" } : Jvm.MethodName) prog_76_method_3_code (1 : Nat) (Option.some Jvm.ClassFile.FieldType.long), Jvm.Cond.code ({ cls := "com/example/waning_versions/waningversions/service/WorkBudget", name := "spend", desc := "(J)Z" } : Jvm.MethodName) prog_76_method_5_code (3 : Nat) (Option.some Jvm.ClassFile.FieldType.boolean), Jvm.Cond.code ({ cls := "com/example/waning_versions/waningversions/service/WorkBudget", name := "spent", desc := "()J" } : Jvm.MethodName) prog_76_method_4_code (1 : Nat) (Option.some Jvm.ClassFile.FieldType.long)]
set_option maxRecDepth 65536 in
theorem codes_eq : words1.filter isCode = codes1 := rfl
theorem w_codes : ∀ c ∈ words1.filter isCode, c.before args0 about1 = true := by
  rw [codes_eq]
  intro c hc
  simp only [codes1, List.mem_cons, List.not_mem_nil, or_false] at hc
  rcases hc with rfl | rfl | rfl | rfl | rfl | rfl | rfl
  · exact w_c0
  · exact w_c1
  · exact w_c2
  · exact w_c3
  · exact w_c4
  · exact w_c5
  · exact w_c6
set_option maxRecDepth 65536 in
theorem w_t1 : (words1.take 24).all (fun c => isCode c || c.before args0 about1) = true := by decide +kernel
set_option maxRecDepth 65536 in
theorem w_t2 : (words1.drop 24).all (fun c => isCode c || c.before args0 about1) = true := by decide +kernel
theorem w_tables : (allAtoms (Jvm.Cond.code x code maxLocals ret :: tables_1)).before args0 about1 = true := by
  rw [allAtoms_all]
  show words1.all (fun c => c.before args0 about1) = true
  refine all_split ?_ w_codes
  rw [← List.take_append_drop 24 words1, List.all_append, w_t1, w_t2]
  rfl
set_option maxRecDepth 65536 in
theorem w_case : (Jvm.Cond.and given_1 narrow_1).before args0 about1 = true := by decide +kernel
theorem w_applies : (headSpec (Jvm.Cond.code x code maxLocals ret :: tables_1) room_1).applies x e0.platform about1 = true :=
  (Spec.applies_iff w_frames).mpr ⟨w_running, w_runnable, w_alone, w_named, w_hears, w_ripe, w_room, w_tables⟩
theorem atStart : AtStart classFile x code maxLocals ret World_1 tables_1 room_1 Calls_1 rest_1 Pre_1 launch0 p0 e0 about1 theMethod args0 below0 :=
  ⟨lists_1, trivial, launch0.admits_env _ _ _, launch0.least_env, fairChoices_fair.cas, fairChoices_fair.clock, w_frames, w_args, w_heap, w_applies, trivial, trivial, w_case⟩
end start1
theorem witness_1 : WitnessClaimed_1 := ⟨start1.p0, start1.e0, start1.about1, start1.theMethod, start1.args0, start1.below0, start1.atStart⟩
end Jvm.Pilot.@@N@@
