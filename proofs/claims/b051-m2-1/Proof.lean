import JvmDerived
import JvmDerived.Pilot.@@N@@Statement
import JvmDerived.Pilot.@@N@@Code
set_option linter.unusedVariables false
set_option linter.unusedSimpArgs false
@@BLOCK:HandJ.lean.txt@@
@@BLOCK:HandW.lean.txt@@
@@BLOCK:HandBits.lean.txt@@
@@BLOCK:SymRun.lean.txt@@
@@BLOCK:RowBasics.lean.txt@@
@@BLOCK:Bridge.lean.txt@@
@@BLOCK:SymKit.lean.txt@@
@@BLOCK:SymWays.lean.txt@@
@@BLOCK:NumsL.lean.txt@@
@@BLOCK:Masks.lean.txt@@
namespace Jvm.Pilot.@@N@@
open Jvm Jvm.ClassFile Sem Op Jvm.Sym Jvm.Pilot.@@N@@.Jvm.D

/-! own 1: arguments by their kinds -/
def own_KL : List VKind → List Value → Prop
  | [], [] => True
  | k :: ks, v :: vs => k.ok v = true ∧ own_KL ks vs
  | _, _ => False
def own_Kinds (ks : List VKind) (A : Array Value) : Prop := own_KL ks A.toList
theorem own_KL_get : ∀ {ks : List VKind} {vs : List Value}, own_KL ks vs → ∀ {i : Nat} {k : VKind}, ks[i]? = some k → ∃ v, vs[i]? = some v ∧ k.ok v = true
  | [], [], _, i, k, h => by simp at h
  | k0 :: ks, v0 :: vs, hh, 0, k, h => by
    simp at h; subst h; exact ⟨v0, by simp, hh.1⟩
  | k0 :: ks, v0 :: vs, hh, i + 1, k, h => by
    simp at h; obtain ⟨v, h1, h2⟩ := own_KL_get hh.2 h; exact ⟨v, by simpa using h1, h2⟩
  | [], _ :: _, hh, _, _, _ => hh.elim
  | _ :: _, [], hh, _, _, _ => hh.elim
theorem own_KL_len : ∀ {ks : List VKind} {vs : List Value}, own_KL ks vs → vs.length = ks.length
  | [], [], _ => rfl
  | k0 :: ks, v0 :: vs, hh => by simp [own_KL_len hh.2]
  | [], _ :: _, hh => hh.elim
  | _ :: _, [], hh => hh.elim
theorem own_Kinds.get {ks : List VKind} {A : Array Value} (h : own_Kinds ks A) {i : Nat} {k : VKind} (hk : ks[i]? = some k) : ∃ v, A[i]? = some v ∧ k.ok v = true := by
  obtain ⟨v, h1, h2⟩ := own_KL_get h hk
  exact ⟨v, by rwa [Array.getElem?_toList] at h1, h2⟩
theorem own_Kinds.size {ks : List VKind} {A : Array Value} (h : own_Kinds ks A) : A.size = ks.length := by
  have := own_KL_len h
  simpa using this
theorem own_KL_sorts {A : Array Value} {s : State} : ∀ (ks : List VKind) (i : Nat) (vs : List Value), (∀ j, A[i + j]? = vs[j]?) → vs.length = ks.length → (∀ q ∈ Sym.sorts i ks, q.before A s = true) → own_KL ks vs
  | [], _, [], _, _, _ => trivial
  | [], _, _ :: _, _, h, _ => by simp at h
  | _ :: _, _, [], _, h, _ => by simp at h
  | k :: ks, i, v :: vs, hA, hl, hq => by
    have h0 := hq (isK k (.arg i)) (by simp [Sym.sorts])
    obtain ⟨w, e, ok⟩ := isK_spec h0
    have e0 := hA 0
    simp only [Nat.add_zero, List.getElem?_cons_zero] at e0
    have e1 : A[i]? = some w := e
    rw [e0] at e1
    cases e1
    refine ⟨ok, own_KL_sorts ks (i + 1) vs (fun j => ?_) (by simpa using hl) (fun q h => hq q (by simp [Sym.sorts]; exact Or.inr h))⟩
    have := hA (j + 1)
    rw [List.getElem?_cons_succ] at this
    rw [← this]; congr 1; omega
theorem own_Kinds_of {A : Array Value} {s : State} {ks : List VKind} (hn : A.size = ks.length) (hq : ∀ q ∈ Sym.sorts 0 ks, q.before A s = true) : own_Kinds ks A :=
  own_KL_sorts ks 0 A.toList (fun j => by simp) (by simpa using hn) hq
theorem own_Kinds.sorts {A : Array Value} {s : State} : ∀ {ks : List VKind} {vs : List Value} (i : Nat), (∀ j, A[i + j]? = vs[j]?) → own_KL ks vs → ∀ q ∈ Sym.sorts i ks, q.before A s = true
  | [], [], _, _, _, q, hq => by cases hq
  | [], _ :: _, _, _, hh, _, _ => hh.elim
  | _ :: _, [], _, _, hh, _, _ => hh.elim
  | k :: ks, v :: vs, i, hA, hh, q, hq => by
    have e0 := hA 0
    simp only [Nat.add_zero, List.getElem?_cons_zero] at e0
    rcases List.mem_cons.mp hq with rfl | hq
    · cases k <;> cases v <;> first | (have := hh.1; simp [VKind.ok] at this; done) | simp [isK, Cond.before, Cond.holds, Cond.value, Term.eval, e0]
    · refine own_Kinds.sorts (i + 1) (fun j => ?_) hh.2 q hq
      have := hA (j + 1)
      rw [List.getElem?_cons_succ] at this
      rw [← this]; congr 1; omega
theorem own_int {v : Value} (h : VKind.int.ok v = true) : ∃ a : Int32, v = .int a := by cases v <;> simp [VKind.ok] at h <;> exact ⟨_, rfl⟩
theorem own_long {v : Value} (h : VKind.long.ok v = true) : ∃ a : Int64, v = .long a := by cases v <;> simp [VKind.ok] at h <;> exact ⟨_, rfl⟩
theorem own_k1 {k0 : VKind} {A : Array Value} (h : own_Kinds [k0] A) : ∃ v0, A = #[v0] ∧ k0.ok v0 = true := by
  obtain ⟨L⟩ := A
  match L, h with
  | [v0], h => exact ⟨v0, rfl, h.1⟩
theorem own_k2 {k0 k1 : VKind} {A : Array Value} (h : own_Kinds [k0, k1] A) : ∃ v0 v1, A = #[v0, v1] ∧ k0.ok v0 = true ∧ k1.ok v1 = true := by
  obtain ⟨L⟩ := A
  match L, h with
  | [v0, v1], h => exact ⟨v0, v1, rfl, h.1, h.2.1⟩
theorem own_k3 {k0 k1 k2 : VKind} {A : Array Value} (h : own_Kinds [k0, k1, k2] A) : ∃ v0 v1 v2, A = #[v0, v1, v2] ∧ k0.ok v0 = true ∧ k1.ok v1 = true ∧ k2.ok v2 = true := by
  obtain ⟨L⟩ := A
  match L, h with
  | [v0, v1, v2], h => exact ⟨v0, v1, v2, rfl, h.1, h.2.1, h.2.2.1⟩
theorem own_k4 {k0 k1 k2 k3 : VKind} {A : Array Value} (h : own_Kinds [k0, k1, k2, k3] A) : ∃ v0 v1 v2 v3, A = #[v0, v1, v2, v3] ∧ k0.ok v0 = true ∧ k1.ok v1 = true ∧ k2.ok v2 = true ∧ k3.ok v3 = true := by
  obtain ⟨L⟩ := A
  match L, h with
  | [v0, v1, v2, v3], h => exact ⟨v0, v1, v2, v3, rfl, h.1, h.2.1, h.2.2.1, h.2.2.2.1⟩

theorem own_k5 {k0 k1 k2 k3 k4 : VKind} {A : Array Value} (h : own_Kinds [k0, k1, k2, k3, k4] A) : ∃ v0 v1 v2 v3 v4, A = #[v0, v1, v2, v3, v4] ∧ k0.ok v0 = true ∧ k1.ok v1 = true ∧ k2.ok v2 = true ∧ k3.ok v3 = true ∧ k4.ok v4 = true := by
  obtain ⟨L⟩ := A
  match L, h with
  | [v0, v1, v2, v3, v4], h => exact ⟨v0, v1, v2, v3, v4, rfl, h.1, h.2.1, h.2.2.1, h.2.2.2.1, h.2.2.2.2.1⟩
theorem own_k6 {k0 k1 k2 k3 k4 k5 : VKind} {A : Array Value} (h : own_Kinds [k0, k1, k2, k3, k4, k5] A) : ∃ v0 v1 v2 v3 v4 v5, A = #[v0, v1, v2, v3, v4, v5] ∧ k0.ok v0 = true ∧ k1.ok v1 = true ∧ k2.ok v2 = true ∧ k3.ok v3 = true ∧ k4.ok v4 = true ∧ k5.ok v5 = true := by
  obtain ⟨L⟩ := A
  match L, h with
  | [v0, v1, v2, v3, v4, v5], h => exact ⟨v0, v1, v2, v3, v4, v5, rfl, h.1, h.2.1, h.2.2.1, h.2.2.2.1, h.2.2.2.2.1, h.2.2.2.2.2.1⟩

/-! own 2: a term's kind, read off its shape -/
def own_ty2 : Binary → Option VKind → Option VKind → Option VKind
  | .iand, some .int, some .int => some .int
  | .ior, some .int, some .int => some .int
  | .ixor, some .int, some .int => some .int
  | .ishl, some .int, some .int => some .int
  | .ishr, some .int, some .int => some .int
  | .iushr, some .int, some .int => some .int
  | .ladd, some .long, some .long => some .long
  | .lsub, some .long, some .long => some .long
  | .lmul, some .long, some .long => some .long
  | .land, some .long, some .long => some .long
  | .lor, some .long, some .long => some .long
  | .lxor, some .long, some .long => some .long
  | .lcmp, some .long, some .long => some .int
  | .lshl, some .long, some .int => some .long
  | .lshr, some .long, some .int => some .long
  | .lushr, some .long, some .int => some .long
  | _, _, _ => none
def own_ty1 : Unary → Option VKind → Option VKind
  | .ineg, some .int => some .int
  | .i2b, some .int => some .int
  | .i2c, some .int => some .int
  | .i2s, some .int => some .int
  | .i2l, some .int => some .long
  | .l2i, some .long => some .int
  | .lneg, some .long => some .long
  | _, _ => none
def own_ii : Option VKind → Option VKind → Option VKind
  | some .int, some .int => some .int
  | _, _ => none
def own_ty (ks : List VKind) : Term → Option VKind
  | .arg i => ks[i]?
  | .int _ => some .int
  | .long _ => some .long
  | .add a b => own_ii (own_ty ks a) (own_ty ks b)
  | .sub a b => own_ii (own_ty ks a) (own_ty ks b)
  | .mul a b => own_ii (own_ty ks a) (own_ty ks b)
  | .op2 f a b => own_ty2 f (own_ty ks a) (own_ty ks b)
  | .op1 f a => own_ty1 f (own_ty ks a)
  | .old t => own_ty ks t
  | _ => none
theorem own_ty2_sound {f : Binary} {a b : Option VKind} {k : VKind} (h : own_ty2 f a b = some k) : ∃ ka kb, a = some ka ∧ b = some kb ∧ ∀ x y, ka.ok x = true → kb.ok y = true → ∃ z, f.apply x y = some z ∧ k.ok z = true := by
  unfold own_ty2 at h
  split at h <;> first
    | (cases h; refine ⟨_, _, rfl, rfl, fun x y hx hy => ?_⟩; cases x <;> simp [VKind.ok] at hx <;> cases y <;> simp [VKind.ok] at hy <;> exact ⟨_, rfl, rfl⟩)
    | cases h
theorem own_ty1_sound {f : Unary} {a : Option VKind} {k : VKind} (h : own_ty1 f a = some k) : ∃ ka, a = some ka ∧ ∀ x, ka.ok x = true → ∃ z, f.apply x = some z ∧ k.ok z = true := by
  unfold own_ty1 at h
  split at h <;> first
    | (cases h; refine ⟨_, rfl, fun x hx => ?_⟩; cases x <;> simp [VKind.ok] at hx <;> exact ⟨_, rfl, rfl⟩)
    | cases h
theorem own_ii_sound {a b : Option VKind} {k : VKind} (h : own_ii a b = some k) : k = .int ∧ a = some .int ∧ b = some .int := by
  unfold own_ii at h
  split at h
  · cases h; exact ⟨rfl, rfl, rfl⟩
  · cases h
theorem own_ty_sound {ks : List VKind} {A : Array Value} {s : State} (hA : own_Kinds ks A) : ∀ (t : Term) {k : VKind}, own_ty ks t = some k → ∃ v, t.eval A s none [] s = some v ∧ k.ok v = true
  | .arg i, k, h => hA.get h
  | .int v, k, h => by cases h; exact ⟨_, rfl, rfl⟩
  | .long v, k, h => by cases h; exact ⟨_, rfl, rfl⟩
  | .add a b, k, h => by
    obtain ⟨rfl, ha, hb⟩ := own_ii_sound h
    obtain ⟨x, ex, hx⟩ := own_ty_sound (s := s) hA a ha
    obtain ⟨y, ey, hy⟩ := own_ty_sound (s := s) hA b hb
    obtain ⟨x, rfl⟩ := own_int hx
    obtain ⟨y, rfl⟩ := own_int hy
    exact ⟨.int (x + y), by simp [Term.eval, ex, ey], rfl⟩
  | .sub a b, k, h => by
    obtain ⟨rfl, ha, hb⟩ := own_ii_sound h
    obtain ⟨x, ex, hx⟩ := own_ty_sound (s := s) hA a ha
    obtain ⟨y, ey, hy⟩ := own_ty_sound (s := s) hA b hb
    obtain ⟨x, rfl⟩ := own_int hx
    obtain ⟨y, rfl⟩ := own_int hy
    exact ⟨.int (x - y), by simp [Term.eval, ex, ey], rfl⟩
  | .mul a b, k, h => by
    obtain ⟨rfl, ha, hb⟩ := own_ii_sound h
    obtain ⟨x, ex, hx⟩ := own_ty_sound (s := s) hA a ha
    obtain ⟨y, ey, hy⟩ := own_ty_sound (s := s) hA b hb
    obtain ⟨x, rfl⟩ := own_int hx
    obtain ⟨y, rfl⟩ := own_int hy
    exact ⟨.int (x * y), by simp [Term.eval, ex, ey], rfl⟩
  | .op2 f a b, k, h => by
    obtain ⟨ka, kb, ha, hb, hf⟩ := own_ty2_sound (show own_ty2 f (own_ty ks a) (own_ty ks b) = some k from h)
    obtain ⟨x, ex, hx⟩ := own_ty_sound (s := s) hA a ha
    obtain ⟨y, ey, hy⟩ := own_ty_sound (s := s) hA b hb
    obtain ⟨z, ez, hz⟩ := hf x y hx hy
    exact ⟨z, by simp [Term.eval, ex, ey, ez], hz⟩
  | .op1 f a, k, h => by
    obtain ⟨ka, ha, hf⟩ := own_ty1_sound (show own_ty1 f (own_ty ks a) = some k from h)
    obtain ⟨x, ex, hx⟩ := own_ty_sound (s := s) hA a ha
    obtain ⟨z, ez, hz⟩ := hf x hx
    exact ⟨z, by simp [Term.eval, ex, ez], hz⟩
  | .old t, k, h => by
    obtain ⟨x, ex, hx⟩ := own_ty_sound (s := s) hA t (show own_ty ks t = some k from h)
    exact ⟨x, by simpa [Term.eval] using ex, hx⟩
  | .null, _, h => by cases h
  | .index _, _, h => by cases h
  | .field _ _ _ _, _, h => by cases h
  | .static _ _ _, _, h => by cases h
  | .string _ _, _, h => by cases h
  | .mirror _, _, h => by cases h
  | .length _, _, h => by cases h
  | .elem _ _, _, h => by cases h
  | .div _ _, _, h => by cases h
  | .rem _ _, _, h => by cases h
  | .sum _, _, h => by cases h
  | .result, _, h => by cases h
  | .thrown, _, h => by cases h

/-! own 3: the needs of a walk, paid by one check: each stands under guards that are worth something whatever way they go -/
def own_num (ks : List VKind) (a b : Term) : Bool := (own_ty ks a == some .int && own_ty ks b == some .int) || (own_ty ks a == some .long && own_ty ks b == some .long)
def own_dfn (ks : List VKind) (D : List Cond) : Cond → Bool
  | .not c => own_dfn ks D c
  | .eq a b => D.contains (.eq a b) || own_num ks a b
  | .lt a b => D.contains (.lt a b) || own_num ks a b
  | .le a b => D.contains (.le a b) || own_num ks a b
  | .and a b => own_dfn ks D a && own_dfn ks D b
  | .or a b => own_dfn ks D a && own_dfn ks D b
  | .tt => true
  | _ => false
def own_chk (ks : List VKind) (T D : List Cond) : Cond → Bool
  | .tt => true
  | .and a b => T.contains (.and a b) || (own_chk ks T D a && own_chk ks T D b)
  | .or a b => T.contains (.or a b) || (own_dfn ks D a && own_chk ks T D b)
  | .isInt t => T.contains (.isInt t) || own_ty ks t == some .int
  | .isLong t => T.contains (.isLong t) || own_ty ks t == some .long
  | c => T.contains c
theorem own_num_sound {ks : List VKind} {A : Array Value} {s : State} (hA : own_Kinds ks A) {a b : Term} (h : own_num ks a b = true) :
    (∃ x y : Int32, a.eval A s none [] s = some (.int x) ∧ b.eval A s none [] s = some (.int y)) ∨ (∃ x y : Int64, a.eval A s none [] s = some (.long x) ∧ b.eval A s none [] s = some (.long y)) := by
  simp only [own_num, Bool.or_eq_true, Bool.and_eq_true, beq_iff_eq] at h
  rcases h with ⟨ha, hb⟩ | ⟨ha, hb⟩
  · obtain ⟨v, ev, hv⟩ := own_ty_sound (s := s) hA a ha
    obtain ⟨w, ew, hw⟩ := own_ty_sound (s := s) hA b hb
    obtain ⟨x, rfl⟩ := own_int hv
    obtain ⟨y, rfl⟩ := own_int hw
    exact Or.inl ⟨x, y, ev, ew⟩
  · obtain ⟨v, ev, hv⟩ := own_ty_sound (s := s) hA a ha
    obtain ⟨w, ew, hw⟩ := own_ty_sound (s := s) hA b hb
    obtain ⟨x, rfl⟩ := own_long hv
    obtain ⟨y, rfl⟩ := own_long hw
    exact Or.inr ⟨x, y, ev, ew⟩
theorem own_dfn_sound {ks : List VKind} {D : List Cond} {A : Array Value} {s : State} (hA : own_Kinds ks A) (hD : ∀ c ∈ D, ∃ b, c.value A s none s [] = some b) : ∀ (c : Cond), own_dfn ks D c = true → ∃ b, c.value A s none s [] = some b := by
  intro c
  induction c with
  | tt => intro _; exact ⟨true, rfl⟩
  | not c ih => intro h; obtain ⟨b, e⟩ := ih h; exact ⟨!b, by simp [Cond.value, e]⟩
  | and a b iha ihb =>
    intro h
    simp only [own_dfn, Bool.and_eq_true] at h
    obtain ⟨x, ex⟩ := iha h.1
    obtain ⟨y, ey⟩ := ihb h.2
    cases x
    · exact ⟨false, by simp [Cond.value, ex]⟩
    · exact ⟨y, by simp [Cond.value, ex, ey]⟩
  | or a b iha ihb =>
    intro h
    simp only [own_dfn, Bool.and_eq_true] at h
    obtain ⟨x, ex⟩ := iha h.1
    obtain ⟨y, ey⟩ := ihb h.2
    cases x
    · exact ⟨y, by simp [Cond.value, ex, ey]⟩
    · exact ⟨true, by simp [Cond.value, ex]⟩
  | eq a b =>
    intro h
    simp only [own_dfn, Bool.or_eq_true] at h
    rcases h with h | h
    · exact hD _ (List.contains_iff_mem.mp h)
    · rcases own_num_sound (s := s) hA h with ⟨x, y, e1, e2⟩ | ⟨x, y, e1, e2⟩ <;> simp only [Cond.value, e1, e2] <;> exact ⟨_, rfl⟩
  | lt a b =>
    intro h
    simp only [own_dfn, Bool.or_eq_true] at h
    rcases h with h | h
    · exact hD _ (List.contains_iff_mem.mp h)
    · rcases own_num_sound (s := s) hA h with ⟨x, y, e1, e2⟩ | ⟨x, y, e1, e2⟩ <;> simp only [Cond.value, e1, e2] <;> exact ⟨_, rfl⟩
  | le a b =>
    intro h
    simp only [own_dfn, Bool.or_eq_true] at h
    rcases h with h | h
    · exact hD _ (List.contains_iff_mem.mp h)
    · rcases own_num_sound (s := s) hA h with ⟨x, y, e1, e2⟩ | ⟨x, y, e1, e2⟩ <;> simp only [Cond.value, e1, e2] <;> exact ⟨_, rfl⟩
  | _ => intro h; simp [own_dfn] at h
theorem own_chk_sound {ks : List VKind} {T D : List Cond} {A : Array Value} {s : State} (hA : own_Kinds ks A) (hT : ∀ c ∈ T, c.value A s none s [] = some true) (hD : ∀ c ∈ D, ∃ b, c.value A s none s [] = some b) :
    ∀ (c : Cond), own_chk ks T D c = true → c.value A s none s [] = some true := by
  intro c
  induction c with
  | tt => intro _; rfl
  | and a b iha ihb =>
    intro h
    simp only [own_chk, Bool.or_eq_true, Bool.and_eq_true] at h
    rcases h with h | h
    · exact hT _ (List.contains_iff_mem.mp h)
    · simp [Cond.value, iha h.1, ihb h.2]
  | or a b iha ihb =>
    intro h
    simp only [own_chk, Bool.or_eq_true, Bool.and_eq_true] at h
    rcases h with h | h
    · exact hT _ (List.contains_iff_mem.mp h)
    · obtain ⟨x, ex⟩ := own_dfn_sound (s := s) hA hD a h.1
      cases x
      · simp [Cond.value, ex, ihb h.2]
      · simp [Cond.value, ex]
  | isInt t =>
    intro h
    simp only [own_chk, Bool.or_eq_true, beq_iff_eq] at h
    rcases h with h | h
    · exact hT _ (List.contains_iff_mem.mp h)
    · obtain ⟨v, ev, hv⟩ := own_ty_sound (s := s) hA t h
      obtain ⟨x, rfl⟩ := own_int hv
      simp [Cond.value, ev]
  | isLong t =>
    intro h
    simp only [own_chk, Bool.or_eq_true, beq_iff_eq] at h
    rcases h with h | h
    · exact hT _ (List.contains_iff_mem.mp h)
    · obtain ⟨v, ev, hv⟩ := own_ty_sound (s := s) hA t h
      obtain ⟨x, rfl⟩ := own_long hv
      simp [Cond.value, ev]
  | _ =>
    intro h
    simp only [own_chk] at h
    exact hT _ (List.contains_iff_mem.mp h)

/-! own 4: what a guard is worth, as a proposition on plain integers; a tree followed by it -/
def own_Is (A : Array Value) (s : State) (G : Cond) (P : Prop) : Prop := (P → G.value A s none s [] = some true) ∧ (¬ P → G.value A s none s [] = some false)
section
variable {A : Array Value} {s : State} {G : Cond} {P : Prop} {ta tb : Term} {a b : STree} {w : Value} {X Y : Int}
theorem own_Is.dfn (h : own_Is A s G P) : ∃ b, G.value A s none s [] = some b := by
  by_cases p : P
  · exact ⟨_, h.1 p⟩
  · exact ⟨_, h.2 p⟩
theorem own_fork (h : own_Is A s G P) (ha : P → Kit.valueOf A s a = some w) (hb : ¬ P → Kit.valueOf A s b = some w) : Kit.valueOf A s (.fork G a b) = some w := by
  by_cases p : P
  · simp only [Kit.valueOf, h.1 p]; exact ha p
  · simp only [Kit.valueOf, h.2 p]; exact hb p
theorem own_not (h : own_Is A s G P) : own_Is A s (.not G) (¬ P) :=
  ⟨fun p => by simp [Cond.value, h.2 p], fun p => by simp [Cond.value, h.1 (Classical.not_not.mp p)]⟩
theorem own_of_decide {Q : Prop} [Decidable Q] (h : G.value A s none s [] = some (decide Q)) (hq : Q ↔ P) : own_Is A s G P :=
  ⟨fun p => by rw [h, decide_eq_true (hq.mpr p)], fun p => by rw [h, decide_eq_false (fun q => p (hq.mp q))]⟩
theorem own_lt_i {x y : Int32} (ha : ta.eval A s none [] s = some (.int x)) (hb : tb.eval A s none [] s = some (.int y)) (hX : x.toInt = X) (hY : y.toInt = Y) : own_Is A s (.lt ta tb) (X < Y) :=
  own_of_decide (Q := x < y) (by simp only [Cond.value, ha, hb]) (by rw [Int32.lt_iff_toInt_lt, hX, hY])
theorem own_le_i {x y : Int32} (ha : ta.eval A s none [] s = some (.int x)) (hb : tb.eval A s none [] s = some (.int y)) (hX : x.toInt = X) (hY : y.toInt = Y) : own_Is A s (.le ta tb) (X ≤ Y) :=
  own_of_decide (Q := x ≤ y) (by simp only [Cond.value, ha, hb]) (by rw [Int32.le_iff_toInt_le, hX, hY])
theorem own_eq_i {x y : Int32} (ha : ta.eval A s none [] s = some (.int x)) (hb : tb.eval A s none [] s = some (.int y)) (hX : x.toInt = X) (hY : y.toInt = Y) : own_Is A s (.eq ta tb) (X = Y) :=
  own_of_decide (Q := x = y) (by simp only [Cond.value, ha, hb]) (by rw [← Int32.toInt_inj, hX, hY])
theorem own_lcmp_eval {x y : Int64} (ha : ta.eval A s none [] s = some (.long x)) (hb : tb.eval A s none [] s = some (.long y)) : (Term.old (.op2 .lcmp ta tb)).eval A s none [] s = some (.int (if x > y then 1 else if x == y then 0 else -1)) := by
  simp only [Term.eval, ha, hb]; rfl
theorem own_lcmp_cases (x y : Int64) : (y.toInt < x.toInt ∧ (if x > y then (1 : Int32) else if x == y then 0 else -1) = 1) ∨ (x.toInt = y.toInt ∧ (if x > y then (1 : Int32) else if x == y then 0 else -1) = 0) ∨ (x.toInt < y.toInt ∧ (if x > y then (1 : Int32) else if x == y then 0 else -1) = -1) := by
  by_cases h : y < x
  · exact Or.inl ⟨Int64.lt_iff_toInt_lt.mp h, by simp [h]⟩
  · by_cases h2 : x = y
    · exact Or.inr (Or.inl ⟨by rw [h2], by subst h2; simp [Int64.lt_irrefl]⟩)
    · refine Or.inr (Or.inr ⟨?_, by simp [h, h2]⟩)
      rw [Int64.lt_iff_toInt_lt] at h
      rw [← Int64.toInt_inj] at h2
      omega
theorem own_lcmp_lt {x y : Int64} (ha : ta.eval A s none [] s = some (.long x)) (hb : tb.eval A s none [] s = some (.long y)) (hX : x.toInt = X) (hY : y.toInt = Y) : own_Is A s (.lt (.old (.op2 .lcmp ta tb)) (.int 0)) (X < Y) :=
  own_of_decide (Cond.lt_ints (own_lcmp_eval ha hb) rfl) (by subst hX hY; rcases own_lcmp_cases x y with ⟨h, e⟩ | ⟨h, e⟩ | ⟨h, e⟩ <;> rw [e] <;> simp <;> omega)
theorem own_lcmp_gt {x y : Int64} (ha : ta.eval A s none [] s = some (.long x)) (hb : tb.eval A s none [] s = some (.long y)) (hX : x.toInt = X) (hY : y.toInt = Y) : own_Is A s (.lt (.int 0) (.old (.op2 .lcmp ta tb))) (Y < X) :=
  own_of_decide (Cond.lt_ints rfl (own_lcmp_eval ha hb)) (by subst hX hY; rcases own_lcmp_cases x y with ⟨h, e⟩ | ⟨h, e⟩ | ⟨h, e⟩ <;> rw [e] <;> simp <;> omega)
theorem own_lcmp_le {x y : Int64} (ha : ta.eval A s none [] s = some (.long x)) (hb : tb.eval A s none [] s = some (.long y)) (hX : x.toInt = X) (hY : y.toInt = Y) : own_Is A s (.le (.old (.op2 .lcmp ta tb)) (.int 0)) (X ≤ Y) :=
  own_of_decide (Cond.le_ints (own_lcmp_eval ha hb) rfl) (by subst hX hY; rcases own_lcmp_cases x y with ⟨h, e⟩ | ⟨h, e⟩ | ⟨h, e⟩ <;> rw [e] <;> simp <;> omega)
theorem own_lcmp_ge {x y : Int64} (ha : ta.eval A s none [] s = some (.long x)) (hb : tb.eval A s none [] s = some (.long y)) (hX : x.toInt = X) (hY : y.toInt = Y) : own_Is A s (.le (.int 0) (.old (.op2 .lcmp ta tb))) (Y ≤ X) :=
  own_of_decide (Cond.le_ints rfl (own_lcmp_eval ha hb)) (by subst hX hY; rcases own_lcmp_cases x y with ⟨h, e⟩ | ⟨h, e⟩ | ⟨h, e⟩ <;> rw [e] <;> simp <;> omega)
theorem own_lcmp_eq {x y : Int64} (ha : ta.eval A s none [] s = some (.long x)) (hb : tb.eval A s none [] s = some (.long y)) (hX : x.toInt = X) (hY : y.toInt = Y) : own_Is A s (.eq (.old (.op2 .lcmp ta tb)) (.int 0)) (X = Y) :=
  own_of_decide (Cond.eq_ints (own_lcmp_eval ha hb) rfl) (by subst hX hY; rcases own_lcmp_cases x y with ⟨h, e⟩ | ⟨h, e⟩ | ⟨h, e⟩ <;> rw [e] <;> simp <;> omega)
end

theorem own_walk_eq {α β γ : Type} {w : Option (α × β × γ)} (h : w.isSome = true) {t : α} (e : (w.get h).1 = t) : w = some (t, (w.get h).2.1, (w.get h).2.2) := by
  subst e; exact (Option.some_get h).symm
/-! own 5: a callee's contract with a promise of one's own; the law's -/
def own_says (T : Term) : Cond := .and .returned (.eq .result (.old T))
theorem own_says_after {T : Term} {A : Array Value} {s E : State} {w : Value} (hc : T.closed = true) (hw : T.eval A s none [] s = some w) (hk : VKind.int.ok w = true ∨ VKind.long.ok w = true) : (own_says T).after A s (.returned (some w)) E = true := by
  have h1 : (Term.old T).eval A s (some (.returned (some w))) [] E = some w := by
    show T.eval A s (some (.returned (some w))) [] s = some w
    rw [Term.eval_closed (some (.returned (some w))) [] T s hc]; exact hw
  have h2 : Term.result.eval A s (some (.returned (some w))) [] E = some w := rfl
  rcases hk with hk | hk
  · obtain ⟨x, rfl⟩ := own_int hk
    simp [own_says, Cond.after, Cond.holds, Cond.value, h1, h2]
  · obtain ⟨x, rfl⟩ := own_long hk
    simp [own_says, Cond.after, Cond.holds, Cond.value, h1, h2]
theorem own_callee {l : Launch} {y : MethodName} {code : ByteArray} {maxL : Nat} {ret : Option FieldType} {ks : List VKind} {I : Info} {n : Nat} {t : STree} {tabs needs extra : List Cond} {post : Cond}
    (hx : plainName y.cls = true) (hown : I.own = y.cls) (hr : I.ret = ret)
    (hw : walkTo I code [] n true (entry ks maxL) = some (t, tabs, needs)) (hcalls : CallsOk l I maxL I.room)
    (hn : (needs.all (own_chk ks (.code y code maxL ret :: (tabs ++ extra)) [])) = true) (hp : Kit.pureVal t = true)
    (hv : ∀ A s, own_Kinds ks A → ∃ w, Kit.valueOf A s t = some w ∧ ∀ E, post.after A s (.returned (some w)) E = true) :
    MeetsLoose l y (specOf y code maxL ret ks post (tabs ++ extra) [] I.room) := by
  refine loops_meets (I := I) (ks0 := ks) (cuts := []) hx hown hr rfl rfl rfl (fun args s h => ?_) hw (fun _ => none) (fun _ _ _ _ _ => False) (fun _ _ _ => 0) (fun args s h => ?_) (fun args s _ h ks hks => by cases hks) hcalls
  · exact conj_before h _ List.mem_cons_self
  · have hall := conj_before h
    have hsz : args.size = ks.length := by
      have := hall (.count ks.length) (by simp)
      simpa [Cond.before, Cond.holds, Cond.value] using this
    have hq : ∀ q ∈ Sym.sorts 0 ks, q.before args s = true := fun q hq => hall q (by simp [hq])
    have hK := own_Kinds_of hsz hq
    have hT : ∀ c ∈ (Cond.code y code maxL ret :: (tabs ++ extra)), c.value args s none s [] = some true := fun c hc => by
      have : c.before args s = true := hall c (by
        rcases List.mem_cons.mp hc with rfl | hc
        · exact List.mem_cons_self
        · rcases List.mem_append.mp hc with hc | hc <;> simp [hc])
      simpa [Cond.before, Cond.holds] using this
    obtain ⟨w, hw1, hw2⟩ := hv args s hK
    refine ⟨hsz, hq, fun q h => hall q (by simp [h]), fun q hq => ?_, Kit.vc_of_value (w₀ := w) (fun E => hw2 E) t hp hw1⟩
    have := own_chk_sound (s := s) hK hT (fun c hc => by cases hc) q (List.all_eq_true.mp hn q hq)
    simpa [Cond.before, Cond.holds] using this
/-! own 6: a boolean as a term of ints -/
def own_TB (A : Array Value) (s : State) (T : Term) (P : Prop) : Prop := (P → T.eval A s none [] s = some (.int 1)) ∧ (¬ P → T.eval A s none [] s = some (.int 0))
def own_tltL (a b : Term) : Term := .op2 .iushr (.op2 .lcmp a b) (.int 31)
def own_tlt (a b : Term) : Term := own_tltL (.op1 .i2l a) (.op1 .i2l b)
def own_tnot (a : Term) : Term := .sub (.int 1) a
def own_tand (a b : Term) : Term := .op2 .iand a b
def own_tor (a b : Term) : Term := .op2 .ior a b
section
variable {A : Array Value} {s : State} {P Q : Prop} {ta tb T U : Term} {X Y : Int}
theorem own_tb_ltL {x y : Int64} (ha : ta.eval A s none [] s = some (.long x)) (hb : tb.eval A s none [] s = some (.long y)) (hX : x.toInt = X) (hY : y.toInt = Y) : own_TB A s (own_tltL ta tb) (X < Y) := by
  have h : (own_tltL ta tb).eval A s none [] s = some (.int (((if x > y then (1 : Int32) else if x == y then 0 else -1).toUInt32 >>> ((31 : Int32) &&& 31).toUInt32).toInt32)) := by
    simp only [own_tltL, Term.eval, ha, hb]; rfl
  subst hX hY
  rcases own_lcmp_cases x y with ⟨h1, e⟩ | ⟨h1, e⟩ | ⟨h1, e⟩ <;> rw [e] at h <;> refine ⟨fun p => ?_, fun p => ?_⟩ <;> first | omega | exact h
theorem own_tb_lt {x y : Int32} (ha : ta.eval A s none [] s = some (.int x)) (hb : tb.eval A s none [] s = some (.int y)) (hX : x.toInt = X) (hY : y.toInt = Y) : own_TB A s (own_tlt ta tb) (X < Y) :=
  own_tb_ltL (x := x.toInt64) (y := y.toInt64) (by simp only [Term.eval, ha]; rfl) (by simp only [Term.eval, hb]; rfl) ((Int32.toInt_toInt64 x).trans hX) ((Int32.toInt_toInt64 y).trans hY)
theorem own_tb_not (h : own_TB A s T P) : own_TB A s (own_tnot T) (¬ P) :=
  ⟨fun p => by simp only [own_tnot, Term.eval, h.2 p]; rfl, fun p => by simp only [own_tnot, Term.eval, h.1 (Classical.not_not.mp p)]; rfl⟩
theorem own_tb_and (h : own_TB A s T P) (k : own_TB A s U Q) : own_TB A s (own_tand T U) (P ∧ Q) := by
  by_cases p : P <;> by_cases q : Q
  · exact ⟨fun _ => by simp only [own_tand, Term.eval, h.1 p, k.1 q]; rfl, fun z => absurd ⟨p, q⟩ z⟩
  · exact ⟨fun z => absurd z.2 q, fun _ => by simp only [own_tand, Term.eval, h.1 p, k.2 q]; rfl⟩
  · exact ⟨fun z => absurd z.1 p, fun _ => by simp only [own_tand, Term.eval, h.2 p, k.1 q]; rfl⟩
  · exact ⟨fun z => absurd z.1 p, fun _ => by simp only [own_tand, Term.eval, h.2 p, k.2 q]; rfl⟩
theorem own_tb_or (h : own_TB A s T P) (k : own_TB A s U Q) : own_TB A s (own_tor T U) (P ∨ Q) := by
  by_cases p : P <;> by_cases q : Q
  · exact ⟨fun _ => by simp only [own_tor, Term.eval, h.1 p, k.1 q]; rfl, fun z => absurd (Or.inl p) z⟩
  · exact ⟨fun _ => by simp only [own_tor, Term.eval, h.1 p, k.2 q]; rfl, fun z => absurd (Or.inl p) z⟩
  · exact ⟨fun _ => by simp only [own_tor, Term.eval, h.2 p, k.1 q]; rfl, fun z => absurd (Or.inr q) z⟩
  · exact ⟨fun z => (z.elim (absurd · p) (absurd · q)), fun _ => by simp only [own_tor, Term.eval, h.2 p, k.2 q]; rfl⟩
theorem own_tb_iff (h : own_TB A s T P) (e : P ↔ Q) : own_TB A s T Q := ⟨fun q => h.1 (e.mpr q), fun q => h.2 (fun p => q (e.mp p))⟩
theorem own_tb_some (h : own_TB A s T P) : ∃ x : Int32, T.eval A s none [] s = some (.int x) := by
  by_cases p : P
  · exact ⟨1, h.1 p⟩
  · exact ⟨0, h.2 p⟩
theorem own_eq_tb1 (h : own_TB A s T P) (hb : tb.eval A s none [] s = some (.int 1)) : own_Is A s (.eq (.old T) tb) P :=
  ⟨fun p => by rw [Cond.eq_ints (show (Term.old T).eval A s none [] s = _ from h.1 p) hb]; rfl, fun p => by rw [Cond.eq_ints (show (Term.old T).eval A s none [] s = _ from h.2 p) hb]; rfl⟩
theorem own_eq_tb0 (h : own_TB A s T P) (hb : tb.eval A s none [] s = some (.int 0)) : own_Is A s (.eq (.old T) tb) (¬ P) :=
  ⟨fun p => by rw [Cond.eq_ints (show (Term.old T).eval A s none [] s = _ from h.2 p) hb]; rfl, fun p => by rw [Cond.eq_ints (show (Term.old T).eval A s none [] s = _ from h.1 (Classical.not_not.mp p)) hb]; rfl⟩
theorem own_eq_self (h : own_TB A s T P) : own_Is A s (.eq (.old T) (.old T)) True := by
  obtain ⟨x, e⟩ := own_tb_some h
  exact ⟨fun _ => by rw [Cond.eq_ints (show (Term.old T).eval A s none [] s = _ from e) (show (Term.old T).eval A s none [] s = _ from e)]; simp, fun p => absurd trivial p⟩
/-- a callee that answers P by 1 or 0, its promise the term T -/
theorem own_bool {t : STree} (h : own_TB A s T P) (hc : T.closed = true) (h1 : P → Kit.valueOf A s t = some (.int 1)) (h0 : ¬ P → Kit.valueOf A s t = some (.int 0)) : ∃ w, Kit.valueOf A s t = some w ∧ ∀ E, (own_says T).after A s (.returned (some w)) E = true := by
  by_cases p : P
  · exact ⟨_, h1 p, fun E => own_says_after hc (h.1 p) (Or.inl rfl)⟩
  · exact ⟨_, h0 p, fun E => own_says_after hc (h.2 p) (Or.inl rfl)⟩
end
end Jvm.Pilot.@@N@@
namespace Jvm.Pilot.@@N@@
open Jvm Jvm.ClassFile Sem Op Jvm.Sym Jvm.Pilot.@@N@@.Jvm.D
end Jvm.Pilot.@@N@@
namespace Jvm.Pilot.@@N@@
open Jvm Jvm.ClassFile Sem Op Lib Jvm.Free Jvm.Stand Jvm.LawKit Jvm.RoadKit Bundle Jvm.Pilot.@@N@@.Jvm.D
/-! own 8: the goal at a frame, one step -/
abbrev own_G (tb : Tables) (e : Env) (below : List Frame) (F : State → Outcome → Prop) (U : State) : Prop := ∃ s₂ o, Steps tb e below U s₂ ∧ F s₂ o
theorem own_via {tb : Tables} {e : Env} {below : List Frame} {F : State → Outcome → Prop} {U U' : State} (h : ∀ t, Steps tb e below U' t → Steps tb e below U t) (k : own_G tb e below F U') : own_G tb e below F U := by
  obtain ⟨s₂, o, h1, h2⟩ := k
  exact ⟨s₂, o, h s₂ h1, h2⟩
/-! own 9: a contract of the walk by evaluation, spent in a walk by hand -/
theorem own_conj {args : Array Value} {s : State} : ∀ (L : List Jvm.Cond), (∀ c ∈ L, c.before args s = true) → (Jvm.Sym.conj L).before args s = true
  | [], _ => rfl
  | c :: L, h => by
    show (Jvm.Cond.and c (Jvm.Sym.conj L)).before args s = true
    rw [Cond.before_and, h c List.mem_cons_self, own_conj L fun d hd => h d (List.mem_cons_of_mem _ hd)]; rfl
theorem own_tabs (T : List Jvm.Cond) {a0 : Array Value} {Z : State} (hw : ∀ d ∈ tables_1, d.before a0 Z = true) (h : (T.all fun d => tables_1.contains d) = true) : ∀ d ∈ T, d.before a0 Z = true :=
  fun d hd => hw d (List.contains_iff_mem.mp (List.all_eq_true.mp h d hd))
theorem own_free {l : Launch} {y : MethodName} {bytes : ByteArray} {maxL : Nat} {ret : Option FieldType} {ks : List Jvm.Sym.VKind} {post : Jvm.Cond} {TT : List Jvm.Cond} {room : Room} (hM : MeetsLoose l y (Jvm.Sym.specOf y bytes maxL ret ks post TT [] room))
    {Z : State} {a0 : Array Value} (hT : ∀ d ∈ TT, d.before a0 Z = true) (hTo : (TT.all fun d => d.onTables && d.keepsFace) = true) (hrc : room.cells = 0) (hrs : room.slots = 0) {as' : Array Value} (hK : own_Kinds ks as') {h : Heap} {Qv : Option Value → Prop}
    (hQ : ∀ U o U', post.after as' U o U' = true → ∃ v, o = .returned v ∧ Qv v) :
    MetFree l y (head1 [Jvm.Cond.code y bytes maxL ret] room) (fun a U => a = as' ∧ Z.Warmed39 U.vm ∧ U.heap = h) (fun _ _ _ _ _ => True) (fun _ U o U' => ∃ v L, o = .returned v ∧ (Qv v ∧ L = [] ∧ U'.heap = h) ∧ FrameEnd U o U' L room.cells room.slots) := by
  intro p e ha hc hk s m args below hf happ hP _
  obtain ⟨rfl, hZ, hh⟩ := hP
  obtain ⟨a1, a2, a3, a4, a5, a6, a7, a8⟩ := (Spec.appliesLoose_iff hf).mp happ
  have hcode : (Jvm.Cond.code y bytes maxL ret).before args s = true := by
    have : (Jvm.Cond.and (Jvm.Cond.code y bytes maxL ret) .tt).before args s = true := a8
    rw [Cond.before_and, Bool.and_eq_true] at this; exact this.1
  have hpre : (Jvm.Sym.specOf y bytes maxL ret ks post TT [] room).pre.before args s = true := by
    refine own_conj _ fun c hc => ?_
    rcases List.mem_cons.mp hc with rfl | hc
    · exact hcode
    · rcases List.mem_cons.mp hc with rfl | hc
      · have := hK.size
        simp [Cond.before, Cond.holds, Cond.value, this]
      · simp only [List.append_nil, List.mem_append] at hc
        rcases hc with hc | hc
        · exact own_Kinds.sorts 0 (fun j => by simp) hK c hc
        · exact mv hZ (hT c hc) (List.all_eq_true.mp hTo c hc)
  obtain ⟨n, o, h1, h2, h3, h4⟩ := hM p e ha hc hk s m args below hf ((Spec.appliesLoose_iff hf).mpr ⟨a1, a2, a3, a4, a5, a6, a7, hpre⟩)
  obtain ⟨hpo, hfr⟩ := h4
  obtain ⟨v, hv, hq⟩ := hQ _ _ _ hpo
  have hfr' : s.WarmedH (stepsAlone p.tables e n s).vm ∧ s.sameBut ({ stepsAlone p.tables e n s with vm := s.vm } : State) [] := by
    simpa [Spec.frees, fieldLocs, arrayLocs, staticLocs, Jvm.Sym.specOf] using hfr
  have hFE : FrameEnd s o (stepsAlone p.tables e n s) [] 0 0 := ⟨⟨v, hv⟩, hfr'.1, hfr'.2.sameButNew 0 0⟩
  refine ⟨n, o, h1, h2, h3, v, [], hv, ⟨hq, rfl, (heap_of_end hFE).trans hh⟩, ?_⟩
  rw [hrc, hrs]; exact hFE
section
variable {p : Program} {l : Launch} {e : Env} {R : Room} {s : State} {m : MethodId} {args : Array Value} {below : List Frame} {meth : Method} {c : Code} {T : State} {locs : List Loc} {cells slots : Nat} {Z : State} {a0 : Array Value} {h : Heap}
theorem own_pure {W : Nat} (X : Stand p l e R s m args below meth c T locs cells slots) (hx : p.tables.exec = Jvm.exec) (hZ : Z.Warmed39 s.vm) {own : String} {index : Nat} {y : MethodName} {bytes : ByteArray} {maxL : Nat} {ret : Option FieldType} {ks : List Jvm.Sym.VKind} {post : Jvm.Cond} {TT : List Jvm.Cond} {room : Room}
    (hown : s.vm.findClass own = some m.cls) (w1 : (Jvm.Cond.methodLink own index y).before a0 Z = true) (w2 : (Jvm.Cond.static y).before a0 Z = true) (w3 : (Jvm.Cond.initialized y.cls).before a0 Z = true) (w4 : (Jvm.Cond.code y bytes maxL ret).before a0 Z = true) (hy : y.cls ≠ "java/lang/invoke/MethodHandle" ∧ y.cls ≠ "java/lang/invoke/VarHandle")
    (hM : MeetsLoose l y (Jvm.Sym.specOf y bytes maxL ret ks post TT [] room)) (hT : ∀ d ∈ TT, d.before a0 Z = true) (hTo : (TT.all fun d => d.onTables && d.keepsFace) = true) (hrc : room.cells = 0) (hrs : room.slots = 0) (eT : T.heap = h)
    {g : JFrame} (hg : g.method = m) (hsize : g.locals.size = c.maxLocals) {argsL rest : List Value} (hlen : ∀ sig, parseMethodDescriptor y.desc = some sig → argsL.length = sig.parameters.length)
    (hstack : g.stack = argsL.reverse ++ rest) (hW : 2 * g.monitorRoom + (rest.map fun v => v.category).sum ≤ W) (hd : decode c.code g.pc = .ok (.invokestatic index, 3)) (hK : own_Kinds ks argsL.toArray) {Qv : Option Value → Prop}
    (hQ : ∀ U o U', post.after argsL.toArray U o U' = true → ∃ v, o = .returned v ∧ Qv v) (hf : room.frames + 1 ≤ R.frames) (hl : W + (maxL + 11) + room.locals ≤ R.locals) (hc : cells ≤ R.cells) (hs : slots ≤ R.slots) :
    ∃ (v : Option Value) (T' : State), Stand p l e R s m args below meth c T' locs cells slots ∧ T'.heap = h ∧ Qv v ∧
      ∀ target, Steps p.tables e below (T'.setTop { g with pc := g.pc + 3, stack := v.toList ++ rest }) target → Steps p.tables e below (T.setTop g) target := by
  obtain ⟨v, _, ⟨T4, L4, k4, n4⟩, -, X4, ⟨Lc4, hQ4, l4, y4, z4⟩, st4⟩ := Jvm.LawKit.callS X hx (y := y) hown (mvT hZ w1) (mvT hZ w2) (mvT hZ w3) (mvT hZ w4) hy
    (backOf (W := W) (Q := fun v h' L => Qv v ∧ L = [] ∧ h' = h) (own_free hM hT hTo hrc hrs hK (h := h) hQ) hZ w4 w3 hf hl) (g := g) hg hsize (argsL := argsL) (rest := rest) hlen hstack hW hd (fun _ _ => ⟨rfl, eT, by rw [hrc]; exact hc, by rw [hrs]; exact hs⟩)
  dsimp only [Pt.U, Pt.locs, Pt.cells, Pt.slots] at X4 l4 y4 z4 st4 hQ4
  obtain ⟨hq, rfl, hh⟩ := hQ4
  rw [hrc] at y4
  rw [hrs] at z4
  simp only [List.append_nil, Nat.add_zero] at l4 y4 z4
  subst l4 y4 z4
  exact ⟨v, T4, X4, hh, hq, st4⟩
end
/-! own 10: what a contract's promise says of the value that comes back; joins -/
theorem own_ints (zs : List Int32) (i : Nat) : ∃ z : Int32, (zs.map Value.int).getD i (.int (0 : Int32)) = .int z := by
  induction zs generalizing i with
  | nil => exact ⟨0, rfl⟩
  | cons a zs ih =>
    cases i with
    | zero => exact ⟨a, rfl⟩
    | succ i => exact ih i
theorem own_inb {j z : Int32} (n : Int) (hz : z.toInt = n) (h0 : 0 ≤ j.toInt) (h1 : j.toInt < n) : ¬ j < 0 ∧ j < z := by
  rw [Int32.lt_iff_toInt_lt, Int32.lt_iff_toInt_lt, hz, show (0 : Int32).toInt = 0 from rfl]; omega
theorem own_says_get {T : Term} {A : Array Value} {U U' : State} {o : Outcome} (hc : T.closed = true) (h : (own_says T).after A U o U' = true) : ∃ w, o = .returned (some w) ∧ T.eval A U none [] U = some w := by
  simp only [own_says, Cond.after_and, Bool.and_eq_true] at h
  obtain ⟨y, e1, e2⟩ := Cond.eq_one (show (Jvm.Cond.eq .result (.old T)).holds A U (some o) U' [] = true from h.2)
  cases o with
  | threw a => simp [Term.eval] at e1
  | returned v =>
    have : v = some y := by simpa [Term.eval] using e1
    subst this
    refine ⟨y, rfl, ?_⟩
    have e3 : T.eval A U (some (.returned (some y))) [] U = some y := e2
    rw [Term.eval_closed (some (.returned (some y))) [] T U hc] at e3
    exact e3
theorem own_says_int {n : Int32} {A : Array Value} {U U' : State} {o : Outcome} (h : (own_says (.int n)).after A U o U' = true) : ∃ v, o = .returned v ∧ v = some (.int n) := by
  obtain ⟨w, h1, h2⟩ := own_says_get (T := .int n) rfl h
  cases h2
  exact ⟨_, h1, rfl⟩
theorem own_says_bool {T : Term} {A : Array Value} {P : Prop} [Decidable P] {U U' : State} {o : Outcome} (hc : T.closed = true) (hT : own_TB A U T P) (h : (own_says T).after A U o U' = true) : ∃ v, o = .returned v ∧ v = some (.int (if P then 1 else 0)) := by
  obtain ⟨w, h1, h2⟩ := own_says_get hc h
  refine ⟨_, h1, ?_⟩
  by_cases p : P
  · rw [hT.1 p] at h2; cases h2; simp [p]
  · rw [hT.2 p] at h2; cases h2; simp [p]
theorem own_join {α : Type} {tb : Tables} {e : Env} {below : List Frame} {F : State → Outcome → Prop} {U0 : State} (P : α → Prop) (U : α → State) (h : ∀ F', (∀ a, P a → own_G tb e below F' (U a)) → own_G tb e below F' U0) (k : ∀ a, P a → own_G tb e below F (U a)) : own_G tb e below F U0 := h F k
end Jvm.Pilot.@@N@@
namespace Jvm.Pilot.@@N@@
open Jvm Jvm.ClassFile Sem Op Lib Jvm.Free Jvm.Stand Jvm.LawKit Jvm.RoadKit Bundle Jvm.Pilot.@@N@@.Jvm.D
theorem own_lt32 {x y : Int32} : x < y ↔ x.toInt < y.toInt := Int32.lt_iff_toInt_lt
theorem own_mix {M N C L : Int} (h1 : 0 ≤ M) (h2 : M < N) (h3 : 0 ≤ L) (h4 : L < C) : 0 ≤ M * C + L ∧ M * C + L < N * C := by
  have a : 0 ≤ M * C := Int.mul_nonneg h1 (by omega)
  have b : M * C ≤ (N - 1) * C := Int.mul_le_mul_of_nonneg_right (by omega) (by omega)
  rw [Int.sub_mul, Int.one_mul] at b
  omega
theorem own_mul32 {n c : Int32} {B : Int} (h0 : 0 ≤ n.toInt) (h1 : n.toInt ≤ B) (h2 : 0 ≤ c.toInt) (h3 : c.toInt ≤ 1024) (hB : B * 1024 < 2147483648) : (n * c).toInt = n.toInt * c.toInt ∧ 0 ≤ n.toInt * c.toInt ∧ n.toInt * c.toInt ≤ B * 1024 := by
  have a : 0 ≤ n.toInt * c.toInt := Int.mul_nonneg h0 h2
  have b : n.toInt * c.toInt ≤ B * 1024 := Int.mul_le_mul h1 h3 h2 (by omega)
  refine ⟨?_, a, b⟩
  rw [Int32.toInt_mul]
  exact Int.bmod_eq_of_le (by omega) (by omega)
theorem own_mix32 {m n c l : Int32} {B : Int} (h0 : 0 ≤ m.toInt) (h1 : m.toInt < n.toInt) (hn : n.toInt ≤ B) (h2 : 1 ≤ c.toInt) (h3 : c.toInt ≤ 1024) (h4 : 0 ≤ l.toInt) (h5 : l.toInt < c.toInt) (hB : B * 1024 < 2147483648) :
    0 ≤ (m * c + l).toInt ∧ (m * c + l).toInt < (n * c).toInt ∧ (n * c).toInt ≤ B * 1024 := by
  obtain ⟨a1, a2, a3⟩ := own_mul32 (n := n) (c := c) (B := B) (by omega) hn (by omega) h3 hB
  obtain ⟨b1, b2, b3⟩ := own_mul32 (n := m) (c := c) (B := B) h0 (by omega) (by omega) h3 hB
  obtain ⟨d1, d2⟩ := own_mix h0 h1 h4 h5
  have e : (m * c + l).toInt = m.toInt * c.toInt + l.toInt := by
    rw [Int32.toInt_add, b1]
    exact Int.bmod_eq_of_le (by omega) (by omega)
  rw [e, a1]
  exact ⟨d1, d2, a3⟩
theorem own_pr {p : Int64} {c : Int32} {B : Int} (h0 : 0 ≤ p.toInt) (h1 : p.toInt ≤ B) (h2 : 1 ≤ c.toInt) {D : Int} (h3 : c.toInt ≤ D) (hB : B * D < 9223372036854775807) : 0 ≤ (p * c.toInt64).toInt ∧ (p * c.toInt64).toInt ≤ B * D := by
  have a : 0 ≤ p.toInt * c.toInt := Int.mul_nonneg h0 (by omega)
  have b : p.toInt * c.toInt ≤ B * D := Int.mul_le_mul h1 h3 (by omega) (by omega)
  rw [Int64.toInt_mul, Int32.toInt_toInt64, Int.bmod_eq_of_le (by omega) (by omega)]
  exact ⟨a, b⟩
theorem own_big {p : Int64} {B : Int} (h1 : p.toInt ≤ B) (hB : B ≤ 2147483639) : ¬ (2147483639 : Int64) < p := by
  rw [Int64.lt_iff_toInt_lt, show (2147483639 : Int64).toInt = 2147483639 from by decide]; omega
theorem own_c (x : Int32) (e1 : (x &&& (1023 : Int32)).toInt = x.toInt % 2 ^ 10) : 1 ≤ ((x &&& (1023 : Int32)) + (1 : Int32)).toInt ∧ ((x &&& (1023 : Int32)) + (1 : Int32)).toInt ≤ 1024 := by
  rw [Int32.toInt_add, e1, show (1 : Int32).toInt = 1 from rfl, Int.bmod_eq_of_le (by omega) (by omega)]
  omega
theorem own_l (y c : Int32) (h0 : 0 ≤ y.toInt) (h : 1 ≤ c.toInt) : 0 ≤ (y % c).toInt ∧ (y % c).toInt < c.toInt := by
  rw [Int32.toInt_mod, Int.tmod_eq_emod_of_nonneg h0]
  exact ⟨Int.emod_nonneg _ (by omega), Int.emod_lt_of_pos _ (by omega)⟩
theorem own_nz {c : Int32} (h : 1 ≤ c.toInt) : c ≠ 0 := fun q => by rw [q] at h; simp at h
theorem own_ge1 {x : Int32} (h : 1 ≤ x.toInt) : ¬ x < (1 : Int32) := by
  rw [Int32.lt_iff_toInt_lt, show (1 : Int32).toInt = 1 from rfl]; omega
theorem own_ge0 {x : Int32} (h : 0 ≤ x.toInt) : ¬ x < (0 : Int32) := by
  rw [Int32.lt_iff_toInt_lt, show (0 : Int32).toInt = 0 from rfl]; omega
theorem own_four {x : Int32} (h0 : 0 ≤ x.toInt) (h : x.toInt < 4) : x = 0 ∨ x = 1 ∨ x = 2 ∨ x = 3 := by
  simp only [← Int32.toInt_inj]
  have k0 : (0 : Int32).toInt = 0 := rfl
  have k1 : (1 : Int32).toInt = 1 := rfl
  have k2 : (2 : Int32).toInt = 2 := rfl
  have k3 : (3 : Int32).toInt = 3 := rfl
  omega
theorem own_c0 (y : Int32) (h0 : 0 ≤ y.toInt) : 1 ≤ ((y % (2147483639 : Int32)) + (1 : Int32)).toInt ∧ ((y % (2147483639 : Int32)) + (1 : Int32)).toInt ≤ 2147483639 := by
  have a := own_l y 2147483639 h0 (by decide)
  rw [show (2147483639 : Int32).toInt = 2147483639 from by decide] at a
  rw [Int32.toInt_add, show (1 : Int32).toInt = 1 from rfl, Int.bmod_eq_of_le (by omega) (by omega)]
  omega
end Jvm.Pilot.@@N@@
namespace Jvm.RoadKit
open Sem ClassFile Op Lib Jvm.Stand Jvm.Free Jvm.LawKit
section New
variable {p : Program} {l : Launch} {e : Env} {R : Room} {s : State} {m : MethodId} {args : Array Value} {below : List Frame} {meth : Method} {c : Code} {T : State} {locs : List Loc} {cells slots : Nat}
theorem retI (X : Stand p l e R s m args below meth c T locs cells slots) (hx : p.tables.exec = Jvm.exec) {pc : Nat} {Ls : Array Slot} {z : Int32} {rest : List Value} (hret : meth.sig.returnType = some .int) (hd : decode c.code pc = .ok (.ireturn, 1)) {fs : List Frame}
    (hl : ∀ (f : JFrame) (acts : List Action), f.method = m → f.locked = none → f.entered = [] → (doReturn e (T.setTop f) acts (some (.int z))).1 = T.setFrames fs) : Steps p.tables e below (T.setTop (mkF m pc Ls (.int z :: rest))) (T.setFrames fs) := by
  have hm' : T.vm.method? m = some meth := X.method'
  have hn : narrow .int (.int z) = .int z := rfl
  show Steps p.tables e below (T.setTop { method := m, pc := pc, locals := Ls, stack := _ :: rest, locked := none }) _
  jvm_step X.here [X.here.top, hx, hd, hm', hret, hn]
  first | (intro acts; rw [hl _ acts rfl rfl rfl]) | rw [hl _ _ rfl rfl rfl]
  exact Steps.refl _
end New
end Jvm.RoadKit
namespace Jvm.Pilot.@@N@@
open Jvm Jvm.ClassFile Sem Op Lib Jvm.Free Jvm.Stand Jvm.LawKit Jvm.RoadKit Bundle Jvm.Pilot.@@N@@.Jvm.D
theorem pd_0 : parseMethodDescriptor "([I)V" = some ⟨[(.array .int)], none⟩ := by decide +kernel
theorem pd_1 : parseMethodDescriptor "()[I" = some ⟨[], some (.array .int)⟩ := by decide +kernel
theorem dc_0 : decode prog_16_method_1_code 0 = .ok (.aload_n 0, 1) := by decide +kernel
theorem dc_1 : decode prog_16_method_1_code 1 = .ok (.invokespecial 3, 3) := by decide +kernel
theorem dc_4 : decode prog_16_method_1_code 4 = .ok (.lconst 1, 1) := by decide +kernel
theorem dc_5 : decode prog_16_method_1_code 5 = .ok (.lstore_n 2, 1) := by decide +kernel
theorem dc_6 : decode prog_16_method_1_code 6 = .ok (.aload_n 1, 1) := by decide +kernel
theorem dc_7 : decode prog_16_method_1_code 7 = .ok (.astore 4, 2) := by decide +kernel
theorem dc_9 : decode prog_16_method_1_code 9 = .ok (.aload 4, 2) := by decide +kernel
theorem dc_11 : decode prog_16_method_1_code 11 = .ok (.arraylength, 1) := by decide +kernel
theorem dc_12 : decode prog_16_method_1_code 12 = .ok (.istore 5, 2) := by decide +kernel
theorem dc_14 : decode prog_16_method_1_code 14 = .ok (.iconst 0, 1) := by decide +kernel
theorem dc_15 : decode prog_16_method_1_code 15 = .ok (.istore 6, 2) := by decide +kernel
theorem dc_17 : decode prog_16_method_1_code 17 = .ok (.iload 6, 2) := by decide +kernel
theorem dc_19 : decode prog_16_method_1_code 19 = .ok (.iload 5, 2) := by decide +kernel
theorem dc_21 : decode prog_16_method_1_code 21 = .ok (.if_icmp .ge 61, 3) := by decide +kernel
theorem dc_24 : decode prog_16_method_1_code 24 = .ok (.aload 4, 2) := by decide +kernel
theorem dc_26 : decode prog_16_method_1_code 26 = .ok (.iload 6, 2) := by decide +kernel
theorem dc_28 : decode prog_16_method_1_code 28 = .ok (.iaload, 1) := by decide +kernel
theorem dc_29 : decode prog_16_method_1_code 29 = .ok (.istore 7, 2) := by decide +kernel
theorem dc_31 : decode prog_16_method_1_code 31 = .ok (.iload 7, 2) := by decide +kernel
theorem dc_33 : decode prog_16_method_1_code 33 = .ok (.iconst 1, 1) := by decide +kernel
theorem dc_34 : decode prog_16_method_1_code 34 = .ok (.if_icmp .ge 18, 3) := by decide +kernel
theorem dc_37 : decode prog_16_method_1_code 37 = .ok (.new 9, 3) := by decide +kernel
theorem dc_40 : decode prog_16_method_1_code 40 = .ok (.dup, 1) := by decide +kernel
theorem dc_41 : decode prog_16_method_1_code 41 = .ok (.iload 7, 2) := by decide +kernel
theorem dc_43 : decode prog_16_method_1_code 43 = .ok (.invokedynamic 11, 5) := by decide +kernel
theorem dc_48 : decode prog_16_method_1_code 48 = .ok (.invokespecial 15, 3) := by decide +kernel
theorem dc_51 : decode prog_16_method_1_code 51 = .ok (.athrow, 1) := by decide +kernel
theorem dc_52 : decode prog_16_method_1_code 52 = .ok (.lload_n 2, 1) := by decide +kernel
theorem dc_53 : decode prog_16_method_1_code 53 = .ok (.iload 7, 2) := by decide +kernel
theorem dc_55 : decode prog_16_method_1_code 55 = .ok (.i2l, 1) := by decide +kernel
theorem dc_56 : decode prog_16_method_1_code 56 = .ok (.lmul, 1) := by decide +kernel
theorem dc_57 : decode prog_16_method_1_code 57 = .ok (.lstore_n 2, 1) := by decide +kernel
theorem dc_58 : decode prog_16_method_1_code 58 = .ok (.lload_n 2, 1) := by decide +kernel
theorem dc_59 : decode prog_16_method_1_code 59 = .ok (.ldc2_w 20, 3) := by decide +kernel
theorem dc_62 : decode prog_16_method_1_code 62 = .ok (.lcmp, 1) := by decide +kernel
theorem dc_63 : decode prog_16_method_1_code 63 = .ok (.ifCond .le 13, 3) := by decide +kernel
theorem dc_66 : decode prog_16_method_1_code 66 = .ok (.new 9, 3) := by decide +kernel
theorem dc_69 : decode prog_16_method_1_code 69 = .ok (.dup, 1) := by decide +kernel
theorem dc_70 : decode prog_16_method_1_code 70 = .ok (.ldc 22, 2) := by decide +kernel
theorem dc_72 : decode prog_16_method_1_code 72 = .ok (.invokespecial 15, 3) := by decide +kernel
theorem dc_75 : decode prog_16_method_1_code 75 = .ok (.athrow, 1) := by decide +kernel
theorem dc_76 : decode prog_16_method_1_code 76 = .ok (.iinc 6 1, 3) := by decide +kernel
theorem dc_79 : decode prog_16_method_1_code 79 = .ok (.goto (-62), 3) := by decide +kernel
theorem dc_82 : decode prog_16_method_1_code 82 = .ok (.aload_n 0, 1) := by decide +kernel
theorem dc_83 : decode prog_16_method_1_code 83 = .ok (.aload_n 1, 1) := by decide +kernel
theorem dc_84 : decode prog_16_method_1_code 84 = .ok (.invokevirtual 24, 3) := by decide +kernel
theorem dc_87 : decode prog_16_method_1_code 87 = .ok (.checkcast 25, 3) := by decide +kernel
theorem dc_90 : decode prog_16_method_1_code 90 = .ok (.putfield 30, 3) := by decide +kernel
theorem dc_93 : decode prog_16_method_1_code 93 = .ok (.aload_n 0, 1) := by decide +kernel
theorem dc_94 : decode prog_16_method_1_code 94 = .ok (.aload_n 1, 1) := by decide +kernel
theorem dc_95 : decode prog_16_method_1_code 95 = .ok (.arraylength, 1) := by decide +kernel
theorem dc_96 : decode prog_16_method_1_code 96 = .ok (.newarray .int, 2) := by decide +kernel
theorem dc_98 : decode prog_16_method_1_code 98 = .ok (.putfield 33, 3) := by decide +kernel
theorem dc_101 : decode prog_16_method_1_code 101 = .ok (.iconst 1, 1) := by decide +kernel
theorem dc_102 : decode prog_16_method_1_code 102 = .ok (.istore 4, 2) := by decide +kernel
theorem dc_104 : decode prog_16_method_1_code 104 = .ok (.aload_n 1, 1) := by decide +kernel
theorem dc_105 : decode prog_16_method_1_code 105 = .ok (.arraylength, 1) := by decide +kernel
theorem dc_106 : decode prog_16_method_1_code 106 = .ok (.iconst 1, 1) := by decide +kernel
theorem dc_107 : decode prog_16_method_1_code 107 = .ok (.isub, 1) := by decide +kernel
theorem dc_108 : decode prog_16_method_1_code 108 = .ok (.istore 5, 2) := by decide +kernel
theorem dc_110 : decode prog_16_method_1_code 110 = .ok (.iload 5, 2) := by decide +kernel
theorem dc_112 : decode prog_16_method_1_code 112 = .ok (.ifCond .lt 27, 3) := by decide +kernel
theorem dc_115 : decode prog_16_method_1_code 115 = .ok (.aload_n 0, 1) := by decide +kernel
theorem dc_116 : decode prog_16_method_1_code 116 = .ok (.getfield 33, 3) := by decide +kernel
theorem dc_119 : decode prog_16_method_1_code 119 = .ok (.iload 5, 2) := by decide +kernel
theorem dc_121 : decode prog_16_method_1_code 121 = .ok (.iload 4, 2) := by decide +kernel
theorem dc_123 : decode prog_16_method_1_code 123 = .ok (.iastore, 1) := by decide +kernel
theorem dc_124 : decode prog_16_method_1_code 124 = .ok (.iload 4, 2) := by decide +kernel
theorem dc_126 : decode prog_16_method_1_code 126 = .ok (.aload_n 1, 1) := by decide +kernel
theorem dc_127 : decode prog_16_method_1_code 127 = .ok (.iload 5, 2) := by decide +kernel
theorem dc_129 : decode prog_16_method_1_code 129 = .ok (.iaload, 1) := by decide +kernel
theorem dc_130 : decode prog_16_method_1_code 130 = .ok (.imul, 1) := by decide +kernel
theorem dc_131 : decode prog_16_method_1_code 131 = .ok (.istore 4, 2) := by decide +kernel
theorem dc_133 : decode prog_16_method_1_code 133 = .ok (.iinc 5 (-1), 3) := by decide +kernel
theorem dc_136 : decode prog_16_method_1_code 136 = .ok (.goto (-26), 3) := by decide +kernel
theorem dc_139 : decode prog_16_method_1_code 139 = .ok (.aload_n 0, 1) := by decide +kernel
theorem dc_140 : decode prog_16_method_1_code 140 = .ok (.lload_n 2, 1) := by decide +kernel
theorem dc_141 : decode prog_16_method_1_code 141 = .ok (.l2i, 1) := by decide +kernel
theorem dc_142 : decode prog_16_method_1_code 142 = .ok (.putfield 36, 3) := by decide +kernel
theorem dc_145 : decode prog_16_method_1_code 145 = .ok (.return_, 1) := by decide +kernel
theorem pn_c0 : plainName "com/example/vanon/vanon/lattice/Lattice" = true := by first | (simp [plainName, overriddenIn]; done) | decide +kernel
theorem ef_c0 (m : MethodId) (a : Addr) (b : Addr) : entryFrame m #[(.ref a), (.ref b)] 8 = (mkF m 0 #[.val (.ref a), .val (.ref b), .unset, .unset, .unset, .unset, .unset, .unset] []) := by first | (simp [entryFrame, mkF, argsToLocals, Value.category]; done) | rfl
def Qc0 (Z : State) (a : Addr) (b : Addr) (kk0 : ClassId) (h0 : Heap) (n0 : Nat) (v : Option Value) (h : Heap) (L : List Loc) : Prop := v = none ∧ Fr n0 L ∧ Keep h0 h [a] ∧ Exa Z h a "com/example/vanon/vanon/lattice/Lattice" ∧ ∃ (b2 b3 : Addr) (k3 : ClassId), n0 ≤ b2 ∧ n0 ≤ b3 ∧ Fld Z h a "com/example/vanon/vanon/lattice/Lattice" "levelCounts" "[I" (.ref b2) ∧ Arv Z h b2 kk0 .int (0 : Int32) ([] : List Value) (.int (0 : Int32)) ∧ Fld Z h a "com/example/vanon/vanon/lattice/Lattice" "strides" "[I" (.ref b3) ∧ Arv Z h b3 k3 .int (0 : Int32) ([] : List Value) (.int (0 : Int32)) ∧ Fld Z h a "com/example/vanon/vanon/lattice/Lattice" "size" "I" (.int ((1 : Int64).toInt32))
set_option maxRecDepth 65536 in
set_option maxHeartbeats 40000000 in
theorem rmc0 (l : Launch) (Z : State) (a0 : Array Value) (hw : ∀ d ∈ tables_1, d.before a0 Z = true) (ws : List Jvm.Cond) (a : Addr) (b : Addr) (kk0 : ClassId) (h0 : Heap) (n0 : Nat) (Z0 : n0 ≤ h0.size) (E_a : Exa Z h0 a "com/example/vanon/vanon/lattice/Lattice") (F_a_levelCounts : Fld Z h0 a "com/example/vanon/vanon/lattice/Lattice" "levelCounts" "[I" .null) (F_a_strides : Fld Z h0 a "com/example/vanon/vanon/lattice/Lattice" "strides" "[I" .null) (F_a_size : Fld Z h0 a "com/example/vanon/vanon/lattice/Lattice" "size" "I" (.int 0)) (E_b : Exa Z h0 b "[I") (V_b : Arv Z h0 b kk0 .int (0 : Int32) ([] : List Value) (.int (0 : Int32))) (g_a : n0 ≤ a) (hab : a ≠ b) :
    MetFree l (⟨"com/example/vanon/vanon/lattice/Lattice", "<init>", "([I)V"⟩ : MethodName) (head1 (Jvm.Cond.code (⟨"com/example/vanon/vanon/lattice/Lattice", "<init>", "([I)V"⟩ : MethodName) prog_16_method_1_code 8 none :: ws) ({ frames := 1, cells := 2, slots := 0, locals := 40 } : Room)) (fun as' U => as' = #[(.ref a), (.ref b)] ∧ Z.Warmed39 U.vm ∧ U.heap = h0) (fun _ _ _ _ _ => True) (fun _ U o U' => ∃ v L, o = .returned v ∧ Qc0 Z a b kk0 h0 n0 v U'.heap L ∧ FrameEnd U o U' L ({ frames := 1, cells := 2, slots := 0, locals := 40 } : Room).cells ({ frames := 1, cells := 2, slots := 0, locals := 40 } : Room).slots) := by
  refine MetFree.of_bodySF (plainFor_of_name pn_c0) hisR ?_
  intro p e s m args below meth c s₁ Bd hml0 hP hK
  obtain ⟨rfl, hZ, hh⟩ := hP
  have hx := Bd.exec
  have hby := Bd.bytes
  have hml : c.maxLocals = 8 := hml0
  have hown : s.vm.findClass "com/example/vanon/vanon/lattice/Lattice" = some m.cls := findClass_of_methodNamed Bd.named
  have hnm := (name_of_methodNamed Bd.named Bd.method).1
  have X0 : Stand p l e ({ frames := 1, cells := 2, slots := 0, locals := 40 } : Room) s m #[(.ref a), (.ref b)] below meth c s₁ [] 0 0 := Stand.of_body Bd
  have e0 : s₁.heap = h0 := by rw [← hh, Bd.state]; rfl
  have N0 := Fr.nil n0
  have K : Keep h0 h0 [a] := Keep.refl _ _
  refine own_via (fun t k => castTop (ef_c0 m a b) k) ?_
  show own_G _ _ _ _ (s₁.setTop (mkF m 0 #[.val (.ref a), .val (.ref b), .unset, .unset, .unset, .unset, .unset, .unset] []))
  refine own_via (fun _ k => XS.aloadN X0.here hx rfl (hb hby dc_0) rfl rfl k) ?_
  show own_G _ _ _ _ (s₁.setTop (mkF m 1 #[.val (.ref a), .val (.ref b), .unset, .unset, .unset, .unset, .unset, .unset] [(.ref a)]))
  obtain ⟨T1, X1, e1, st1⟩ := initO X0 hx hZ hown (hw _ (List.mem_of_getElem? (i := 9) rfl)) (hw _ (List.mem_of_getElem? (i := 10) rfl)) (hw _ (List.mem_of_getElem? (i := 11) rfl)) e0 (g := (mkF m 1 #[.val (.ref a), .val (.ref b), .unset, .unset, .unset, .unset, .unset, .unset] [(.ref a)])) rfl (by rw [hml]; rfl) rfl (hb hby dc_1) (by decide) (W := 0) (by show 2 * 0 + _ ≤ _; exact Nat.le_of_eq rfl) (by decide)
  refine own_via st1 ?_
  show own_G _ _ _ _ (T1.setTop (mkF m 4 #[.val (.ref a), .val (.ref b), .unset, .unset, .unset, .unset, .unset, .unset] []))
  refine own_via (fun _ k => XS.lconst X1.here hx rfl (hb hby dc_4) k) ?_
  show own_G _ _ _ _ (T1.setTop (mkF m 5 #[.val (.ref a), .val (.ref b), .unset, .unset, .unset, .unset, .unset, .unset] [(.long (1 : Int64))]))
  refine own_via (fun _ k => XS.lstoreN X1.here hx rfl (hb hby dc_5) rfl (l' := #[.val (.ref a), .val (.ref b), .val (.long (1 : Int64)), .second, .unset, .unset, .unset, .unset]) rfl k) ?_
  show own_G _ _ _ _ (T1.setTop (mkF m 6 #[.val (.ref a), .val (.ref b), .val (.long (1 : Int64)), .second, .unset, .unset, .unset, .unset] []))
  refine own_via (fun _ k => XS.aloadN X1.here hx rfl (hb hby dc_6) rfl rfl k) ?_
  show own_G _ _ _ _ (T1.setTop (mkF m 7 #[.val (.ref a), .val (.ref b), .val (.long (1 : Int64)), .second, .unset, .unset, .unset, .unset] [(.ref b)]))
  refine own_via (fun _ k => XS.astore X1.here hx rfl (hb hby dc_7) rfl rfl (l' := #[.val (.ref a), .val (.ref b), .val (.long (1 : Int64)), .second, .val (.ref b), .unset, .unset, .unset]) rfl k) ?_
  show own_G _ _ _ _ (T1.setTop (mkF m 9 #[.val (.ref a), .val (.ref b), .val (.long (1 : Int64)), .second, .val (.ref b), .unset, .unset, .unset] []))
  refine own_via (fun _ k => XS.aload X1.here hx rfl (hb hby dc_9) rfl rfl k) ?_
  show own_G _ _ _ _ (T1.setTop (mkF m 11 #[.val (.ref a), .val (.ref b), .val (.long (1 : Int64)), .second, .val (.ref b), .unset, .unset, .unset] [(.ref b)]))
  obtain ⟨cl2, Ar2, -, Sz2, Nn2, -, -⟩ := id V_b
  refine own_via (fun _ k => X1.arraylength hx (by rw [e1]; exact Ar2.1) (State.isArrayOf_alike hZ.alike Ar2.2.1) (g := (mkF m 11 #[.val (.ref a), .val (.ref b), .val (.long (1 : Int64)), .second, .val (.ref b), .unset, .unset, .unset] [(.ref b)])) rfl rfl (hb hby dc_11) _ k) ?_
  rw [len_of Sz2 Nn2]
  show own_G _ _ _ _ (T1.setTop (mkF m 12 #[.val (.ref a), .val (.ref b), .val (.long (1 : Int64)), .second, .val (.ref b), .unset, .unset, .unset] [(.int (0 : Int32))]))
  refine own_via (fun _ k => XS.istore X1.here hx rfl (hb hby dc_12) rfl (l' := #[.val (.ref a), .val (.ref b), .val (.long (1 : Int64)), .second, .val (.ref b), .val (.int (0 : Int32)), .unset, .unset]) rfl k) ?_
  show own_G _ _ _ _ (T1.setTop (mkF m 14 #[.val (.ref a), .val (.ref b), .val (.long (1 : Int64)), .second, .val (.ref b), .val (.int (0 : Int32)), .unset, .unset] []))
  refine own_via (fun _ k => XS.iconst X1.here hx rfl (hb hby dc_14) k) ?_
  show own_G _ _ _ _ (T1.setTop (mkF m 15 #[.val (.ref a), .val (.ref b), .val (.long (1 : Int64)), .second, .val (.ref b), .val (.int (0 : Int32)), .unset, .unset] [(.int (0 : Int32))]))
  refine own_via (fun _ k => XS.istore X1.here hx rfl (hb hby dc_15) rfl (l' := #[.val (.ref a), .val (.ref b), .val (.long (1 : Int64)), .second, .val (.ref b), .val (.int (0 : Int32)), .val (.int (0 : Int32)), .unset]) rfl k) ?_
  show own_G _ _ _ _ (T1.setTop (mkF m 17 #[.val (.ref a), .val (.ref b), .val (.long (1 : Int64)), .second, .val (.ref b), .val (.int (0 : Int32)), .val (.int (0 : Int32)), .unset] []))
  refine own_via (fun _ k => XS.iload X1.here hx rfl (hb hby dc_17) rfl k) ?_
  show own_G _ _ _ _ (T1.setTop (mkF m 19 #[.val (.ref a), .val (.ref b), .val (.long (1 : Int64)), .second, .val (.ref b), .val (.int (0 : Int32)), .val (.int (0 : Int32)), .unset] [(.int (0 : Int32))]))
  refine own_via (fun _ k => XS.iload X1.here hx rfl (hb hby dc_19) rfl k) ?_
  show own_G _ _ _ _ (T1.setTop (mkF m 21 #[.val (.ref a), .val (.ref b), .val (.long (1 : Int64)), .second, .val (.ref b), .val (.int (0 : Int32)), .val (.int (0 : Int32)), .unset] [(.int (0 : Int32)), (.int (0 : Int32))]))
  refine own_via (fun _ k => XS.icmpYes X1.here hx rfl (pc0 := 21) (pc' := 82) rfl (hb hby dc_21) rfl (flt (by decide)).2.1 (by decide) (by decide) k) ?_
  show own_G _ _ _ _ (T1.setTop (mkF m 82 #[.val (.ref a), .val (.ref b), .val (.long (1 : Int64)), .second, .val (.ref b), .val (.int (0 : Int32)), .val (.int (0 : Int32)), .unset] []))
  refine own_via (fun _ k => XS.aloadN X1.here hx rfl (hb hby dc_82) rfl rfl k) ?_
  show own_G _ _ _ _ (T1.setTop (mkF m 83 #[.val (.ref a), .val (.ref b), .val (.long (1 : Int64)), .second, .val (.ref b), .val (.int (0 : Int32)), .val (.int (0 : Int32)), .unset] [(.ref a)]))
  refine own_via (fun _ k => XS.aloadN X1.here hx rfl (hb hby dc_83) rfl rfl k) ?_
  show own_G _ _ _ _ (T1.setTop (mkF m 84 #[.val (.ref a), .val (.ref b), .val (.long (1 : Int64)), .second, .val (.ref b), .val (.int (0 : Int32)), .val (.int (0 : Int32)), .unset] [(.ref b), (.ref a)]))
  obtain ⟨T3, h3, X3, e3, E3, V3, EA3, st3⟩ := cloneH X1 hx hZ hown (hw _ (List.mem_of_getElem? (i := 12) rfl)) (hw _ (List.mem_of_getElem? (i := 13) rfl)) (hw _ (List.mem_of_getElem? (i := 17) rfl)) (hw _ (List.mem_of_getElem? (i := 15) rfl)) (hw _ (List.mem_of_getElem? (i := 16) rfl)) (hw _ (List.mem_of_getElem? (i := 18) rfl)) e1 V_b.arh E_b (g := (mkF m 84 #[.val (.ref a), .val (.ref b), .val (.long (1 : Int64)), .second, .val (.ref b), .val (.int (0 : Int32)), .val (.int (0 : Int32)), .unset] [(.ref b), (.ref a)])) rfl (by rw [hml]; rfl) rfl (hb hby dc_84) (by decide) (W := 1) (cap := 0) (by show 2 * 0 + _ ≤ _; exact Nat.le_of_eq rfl) (by decide) (by decide) (by decide) (by decide)
  obtain ⟨b2, g3⟩ : ∃ z, z = h0.size := ⟨_, rfl⟩
  rw [← g3] at V3 EA3 st3
  have g_b2 : n0 ≤ b2 := Nat.le_trans Z0 (Nat.le_of_eq g3.symm)
  have sz_b2 : h0.size ≤ b2 := Nat.le_trans K.1 (Nat.le_of_eq g3.symm)
  have ne_a_b2 : a ≠ b2 := Nat.ne_of_lt (Nat.lt_of_lt_of_le E_a.lt (Nat.le_of_eq g3.symm))
  have ne_b_b2 : b ≠ b2 := Nat.ne_of_lt (Nat.lt_of_lt_of_le E_b.lt (Nat.le_of_eq g3.symm))
  have E_a := E_a.ext E3
  have F_a_levelCounts := F_a_levelCounts.ext E3
  have F_a_strides := F_a_strides.ext E3
  have F_a_size := F_a_size.ext E3
  have E_b := E_b.ext E3
  have V_b := V_b.ext E3
  have Z0 := Nat.le_trans Z0 E3.1
  have K := K.ext E3
  have E_b2 := EA3
  have V_b2 : Arv Z h3 b2 kk0 .int (0 : Int32) ([] : List Value) (.int (0 : Int32)) := V3
  refine own_via st3 ?_
  show own_G _ _ _ _ (T3.setTop (mkF m 87 #[.val (.ref a), .val (.ref b), .val (.long (1 : Int64)), .second, .val (.ref b), .val (.int (0 : Int32)), .val (.int (0 : Int32)), .unset] [(.ref b2), (.ref a)]))
  obtain ⟨T4, X4, e4, st4⟩ := castY X3 hx hZ hown (hw _ (List.mem_of_getElem? (i := 19) rfl)) e3 (Ins.self E_b2) (g := (mkF m 87 #[.val (.ref a), .val (.ref b), .val (.long (1 : Int64)), .second, .val (.ref b), .val (.int (0 : Int32)), .val (.int (0 : Int32)), .unset] [(.ref b2), (.ref a)])) rfl rfl (hb hby dc_87)
  refine own_via st4 ?_
  show own_G _ _ _ _ (T4.setTop (mkF m 90 #[.val (.ref a), .val (.ref b), .val (.long (1 : Int64)), .second, .val (.ref b), .val (.int (0 : Int32)), .val (.int (0 : Int32)), .unset] [(.ref b2), (.ref a)]))
  obtain ⟨T5, h5, X5, e5, W5, st5⟩ := putF X4 hx hZ hown (host := "") (Or.inl (hw _ (List.mem_of_getElem? (i := 21) rfl))) Via.refl e4 F_a_levelCounts E_a (Or.inr ⟨(hw _ (List.mem_of_getElem? (i := 22) rfl)), rfl, hnm⟩) (hw _ (List.mem_of_getElem? (i := 4) rfl)) (ty := (.array .int)) (by decide) rfl rfl (g := (mkF m 90 #[.val (.ref a), .val (.ref b), .val (.long (1 : Int64)), .second, .val (.ref b), .val (.int (0 : Int32)), .val (.int (0 : Int32)), .unset] [(.ref b2), (.ref a)])) rfl rfl (hb hby dc_90)
  have F_a_levelCounts := F_a_levelCounts.same W5
  have F_a_strides := F_a_strides.other W5 (Or.inr (slot_ne (Or.inr (hw _ (List.mem_of_getElem? (i := 24) rfl))) (Or.inr (hw _ (List.mem_of_getElem? (i := 22) rfl))) (by decide) (t := (.array .int)) (t' := (.array .int)) (by decide) (by decide)))
  have F_a_size := F_a_size.other W5 (Or.inr (slot_ne (Or.inr (hw _ (List.mem_of_getElem? (i := 26) rfl))) (Or.inr (hw _ (List.mem_of_getElem? (i := 22) rfl))) (by decide) (t := .int) (t' := (.array .int)) (by decide) (by decide)))
  have E_a := E_a.wr W5
  have E_b := E_b.wr W5
  have V_b := V_b.other W5 (Ne.symm hab)
  have E_b2 := E_b2.wr W5
  have V_b2 := V_b2.other W5 (Ne.symm ne_a_b2)
  have Z0 := Nat.le_trans Z0 (Keep.of_wr W5).1
  have K := K.wr W5 (Or.inl (by simp))
  have N5 := Fr.snoc X5 N0 g_a
  refine own_via st5 ?_
  show own_G _ _ _ _ (T5.setTop (mkF m 93 #[.val (.ref a), .val (.ref b), .val (.long (1 : Int64)), .second, .val (.ref b), .val (.int (0 : Int32)), .val (.int (0 : Int32)), .unset] []))
  refine own_via (fun _ k => XS.aloadN X5.here hx rfl (hb hby dc_93) rfl rfl k) ?_
  show own_G _ _ _ _ (T5.setTop (mkF m 94 #[.val (.ref a), .val (.ref b), .val (.long (1 : Int64)), .second, .val (.ref b), .val (.int (0 : Int32)), .val (.int (0 : Int32)), .unset] [(.ref a)]))
  refine own_via (fun _ k => XS.aloadN X5.here hx rfl (hb hby dc_94) rfl rfl k) ?_
  show own_G _ _ _ _ (T5.setTop (mkF m 95 #[.val (.ref a), .val (.ref b), .val (.long (1 : Int64)), .second, .val (.ref b), .val (.int (0 : Int32)), .val (.int (0 : Int32)), .unset] [(.ref b), (.ref a)]))
  obtain ⟨cl6, Ar6, -, Sz6, Nn6, -, -⟩ := id V_b
  refine own_via (fun _ k => X5.arraylength hx (by rw [e5]; exact Ar6.1) (State.isArrayOf_alike hZ.alike Ar6.2.1) (g := (mkF m 95 #[.val (.ref a), .val (.ref b), .val (.long (1 : Int64)), .second, .val (.ref b), .val (.int (0 : Int32)), .val (.int (0 : Int32)), .unset] [(.ref b), (.ref a)])) rfl rfl (hb hby dc_95) _ k) ?_
  rw [len_of Sz6 Nn6]
  show own_G _ _ _ _ (T5.setTop (mkF m 96 #[.val (.ref a), .val (.ref b), .val (.long (1 : Int64)), .second, .val (.ref b), .val (.int (0 : Int32)), .val (.int (0 : Int32)), .unset] [(.int (0 : Int32)), (.ref a)]))
  obtain ⟨T7, h7, k_b3, X7, e7, E7, A7, st7⟩ := newP X5 hx hZ (hw _ (List.mem_of_getElem? (i := 2) rfl)) e5 (g := (mkF m 96 #[.val (.ref a), .val (.ref b), .val (.long (1 : Int64)), .second, .val (.ref b), .val (.int (0 : Int32)), .val (.int (0 : Int32)), .unset] [(.int (0 : Int32)), (.ref a)])) rfl (hb hby dc_96) rfl (by decide) (cap := 0) (by decide) (by decide) (by decide) (by decide)
  obtain ⟨b3, g7⟩ : ∃ z, z = h5.size := ⟨_, rfl⟩
  rw [← g7] at A7 st7
  have g_b3 : n0 ≤ b3 := Nat.le_trans Z0 (Nat.le_of_eq g7.symm)
  have sz_b3 : h0.size ≤ b3 := Nat.le_trans K.1 (Nat.le_of_eq g7.symm)
  have ne_a_b3 : a ≠ b3 := Nat.ne_of_lt (Nat.lt_of_lt_of_le E_a.lt (Nat.le_of_eq g7.symm))
  have ne_b_b3 : b ≠ b3 := Nat.ne_of_lt (Nat.lt_of_lt_of_le E_b.lt (Nat.le_of_eq g7.symm))
  have ne_b2_b3 : b2 ≠ b3 := Nat.ne_of_lt (Nat.lt_of_lt_of_le E_b2.lt (Nat.le_of_eq g7.symm))
  have E_a := E_a.ext E7
  have F_a_levelCounts := F_a_levelCounts.ext E7
  have F_a_strides := F_a_strides.ext E7
  have F_a_size := F_a_size.ext E7
  have E_b := E_b.ext E7
  have V_b := V_b.ext E7
  have E_b2 := E_b2.ext E7
  have V_b2 := V_b2.ext E7
  have Z0 := Nat.le_trans Z0 E7.1
  have K := K.ext E7
  have V_b3 : Arv Z h7 b3 k_b3 .int (0 : Int32) [] (.int (0 : Int32)) := (Arv.new A7 (by decide)).pad (pad_rep [] (.int (0 : Int32)) 0)
  refine own_via st7 ?_
  show own_G _ _ _ _ (T7.setTop (mkF m 98 #[.val (.ref a), .val (.ref b), .val (.long (1 : Int64)), .second, .val (.ref b), .val (.int (0 : Int32)), .val (.int (0 : Int32)), .unset] [(.ref b3), (.ref a)]))
  obtain ⟨T8, h8, X8, e8, W8, st8⟩ := putF X7 hx hZ hown (host := "") (Or.inl (hw _ (List.mem_of_getElem? (i := 23) rfl))) Via.refl e7 F_a_strides E_a (Or.inr ⟨(hw _ (List.mem_of_getElem? (i := 24) rfl)), rfl, hnm⟩) (hw _ (List.mem_of_getElem? (i := 4) rfl)) (ty := (.array .int)) (by decide) rfl rfl (g := (mkF m 98 #[.val (.ref a), .val (.ref b), .val (.long (1 : Int64)), .second, .val (.ref b), .val (.int (0 : Int32)), .val (.int (0 : Int32)), .unset] [(.ref b3), (.ref a)])) rfl rfl (hb hby dc_98)
  have F_a_strides := F_a_strides.same W8
  have F_a_levelCounts := F_a_levelCounts.other W8 (Or.inr (slot_ne (Or.inr (hw _ (List.mem_of_getElem? (i := 22) rfl))) (Or.inr (hw _ (List.mem_of_getElem? (i := 24) rfl))) (by decide) (t := (.array .int)) (t' := (.array .int)) (by decide) (by decide)))
  have F_a_size := F_a_size.other W8 (Or.inr (slot_ne (Or.inr (hw _ (List.mem_of_getElem? (i := 26) rfl))) (Or.inr (hw _ (List.mem_of_getElem? (i := 24) rfl))) (by decide) (t := .int) (t' := (.array .int)) (by decide) (by decide)))
  have E_a := E_a.wr W8
  have E_b := E_b.wr W8
  have V_b := V_b.other W8 (Ne.symm hab)
  have E_b2 := E_b2.wr W8
  have V_b2 := V_b2.other W8 (Ne.symm ne_a_b2)
  have V_b3 := V_b3.other W8 (Ne.symm ne_a_b3)
  have Z0 := Nat.le_trans Z0 (Keep.of_wr W8).1
  have K := K.wr W8 (Or.inl (by simp))
  have N8 := Fr.snoc X8 N5 g_a
  refine own_via st8 ?_
  show own_G _ _ _ _ (T8.setTop (mkF m 101 #[.val (.ref a), .val (.ref b), .val (.long (1 : Int64)), .second, .val (.ref b), .val (.int (0 : Int32)), .val (.int (0 : Int32)), .unset] []))
  refine own_via (fun _ k => XS.iconst X8.here hx rfl (hb hby dc_101) k) ?_
  show own_G _ _ _ _ (T8.setTop (mkF m 102 #[.val (.ref a), .val (.ref b), .val (.long (1 : Int64)), .second, .val (.ref b), .val (.int (0 : Int32)), .val (.int (0 : Int32)), .unset] [(.int (1 : Int32))]))
  refine own_via (fun _ k => XS.istore X8.here hx rfl (hb hby dc_102) rfl (l' := #[.val (.ref a), .val (.ref b), .val (.long (1 : Int64)), .second, .val (.int (1 : Int32)), .val (.int (0 : Int32)), .val (.int (0 : Int32)), .unset]) rfl k) ?_
  show own_G _ _ _ _ (T8.setTop (mkF m 104 #[.val (.ref a), .val (.ref b), .val (.long (1 : Int64)), .second, .val (.int (1 : Int32)), .val (.int (0 : Int32)), .val (.int (0 : Int32)), .unset] []))
  refine own_via (fun _ k => XS.aloadN X8.here hx rfl (hb hby dc_104) rfl rfl k) ?_
  show own_G _ _ _ _ (T8.setTop (mkF m 105 #[.val (.ref a), .val (.ref b), .val (.long (1 : Int64)), .second, .val (.int (1 : Int32)), .val (.int (0 : Int32)), .val (.int (0 : Int32)), .unset] [(.ref b)]))
  obtain ⟨cl9, Ar9, -, Sz9, Nn9, -, -⟩ := id V_b
  refine own_via (fun _ k => X8.arraylength hx (by rw [e8]; exact Ar9.1) (State.isArrayOf_alike hZ.alike Ar9.2.1) (g := (mkF m 105 #[.val (.ref a), .val (.ref b), .val (.long (1 : Int64)), .second, .val (.int (1 : Int32)), .val (.int (0 : Int32)), .val (.int (0 : Int32)), .unset] [(.ref b)])) rfl rfl (hb hby dc_105) _ k) ?_
  rw [len_of Sz9 Nn9]
  show own_G _ _ _ _ (T8.setTop (mkF m 106 #[.val (.ref a), .val (.ref b), .val (.long (1 : Int64)), .second, .val (.int (1 : Int32)), .val (.int (0 : Int32)), .val (.int (0 : Int32)), .unset] [(.int (0 : Int32))]))
  refine own_via (fun _ k => XS.iconst X8.here hx rfl (hb hby dc_106) k) ?_
  show own_G _ _ _ _ (T8.setTop (mkF m 107 #[.val (.ref a), .val (.ref b), .val (.long (1 : Int64)), .second, .val (.int (1 : Int32)), .val (.int (0 : Int32)), .val (.int (0 : Int32)), .unset] [(.int (1 : Int32)), (.int (0 : Int32))]))
  refine own_via (fun _ k => XS.isub X8.here hx rfl (hb hby dc_107) rfl k) ?_
  show own_G _ _ _ _ (T8.setTop (mkF m 108 #[.val (.ref a), .val (.ref b), .val (.long (1 : Int64)), .second, .val (.int (1 : Int32)), .val (.int (0 : Int32)), .val (.int (0 : Int32)), .unset] [(.int ((0 : Int32) - (1 : Int32)))]))
  refine own_via (fun _ k => XS.istore X8.here hx rfl (hb hby dc_108) rfl (l' := #[.val (.ref a), .val (.ref b), .val (.long (1 : Int64)), .second, .val (.int (1 : Int32)), .val (.int ((0 : Int32) - (1 : Int32))), .val (.int (0 : Int32)), .unset]) rfl k) ?_
  show own_G _ _ _ _ (T8.setTop (mkF m 110 #[.val (.ref a), .val (.ref b), .val (.long (1 : Int64)), .second, .val (.int (1 : Int32)), .val (.int ((0 : Int32) - (1 : Int32))), .val (.int (0 : Int32)), .unset] []))
  refine own_via (fun _ k => XS.iload X8.here hx rfl (hb hby dc_110) rfl k) ?_
  show own_G _ _ _ _ (T8.setTop (mkF m 112 #[.val (.ref a), .val (.ref b), .val (.long (1 : Int64)), .second, .val (.int (1 : Int32)), .val (.int ((0 : Int32) - (1 : Int32))), .val (.int (0 : Int32)), .unset] [(.int ((0 : Int32) - (1 : Int32)))]))
  refine own_via (fun _ k => XS.ifYes X8.here hx rfl (pc0 := 112) (pc' := 139) rfl (hb hby dc_112) rfl ((if0 _ _).trans (tlt (by decide)).1) (by decide) (by decide) k) ?_
  show own_G _ _ _ _ (T8.setTop (mkF m 139 #[.val (.ref a), .val (.ref b), .val (.long (1 : Int64)), .second, .val (.int (1 : Int32)), .val (.int ((0 : Int32) - (1 : Int32))), .val (.int (0 : Int32)), .unset] []))
  refine own_via (fun _ k => XS.aloadN X8.here hx rfl (hb hby dc_139) rfl rfl k) ?_
  show own_G _ _ _ _ (T8.setTop (mkF m 140 #[.val (.ref a), .val (.ref b), .val (.long (1 : Int64)), .second, .val (.int (1 : Int32)), .val (.int ((0 : Int32) - (1 : Int32))), .val (.int (0 : Int32)), .unset] [(.ref a)]))
  refine own_via (fun _ k => XS.lloadN X8.here hx rfl (hb hby dc_140) rfl k) ?_
  show own_G _ _ _ _ (T8.setTop (mkF m 141 #[.val (.ref a), .val (.ref b), .val (.long (1 : Int64)), .second, .val (.int (1 : Int32)), .val (.int ((0 : Int32) - (1 : Int32))), .val (.int (0 : Int32)), .unset] [(.long (1 : Int64)), (.ref a)]))
  refine own_via (fun _ k => XS.l2i X8.here hx rfl (hb hby dc_141) rfl k) ?_
  show own_G _ _ _ _ (T8.setTop (mkF m 142 #[.val (.ref a), .val (.ref b), .val (.long (1 : Int64)), .second, .val (.int (1 : Int32)), .val (.int ((0 : Int32) - (1 : Int32))), .val (.int (0 : Int32)), .unset] [(.int ((1 : Int64).toInt32)), (.ref a)]))
  obtain ⟨T10, h10, X10, e10, W10, st10⟩ := putF X8 hx hZ hown (host := "") (Or.inl (hw _ (List.mem_of_getElem? (i := 25) rfl))) Via.refl e8 F_a_size E_a (Or.inr ⟨(hw _ (List.mem_of_getElem? (i := 26) rfl)), rfl, hnm⟩) (hw _ (List.mem_of_getElem? (i := 4) rfl)) (ty := .int) (by decide) rfl rfl (g := (mkF m 142 #[.val (.ref a), .val (.ref b), .val (.long (1 : Int64)), .second, .val (.int (1 : Int32)), .val (.int ((0 : Int32) - (1 : Int32))), .val (.int (0 : Int32)), .unset] [(.int ((1 : Int64).toInt32)), (.ref a)])) rfl rfl (hb hby dc_142)
  have F_a_size := F_a_size.same W10
  have F_a_levelCounts := F_a_levelCounts.other W10 (Or.inr (slot_ne (Or.inr (hw _ (List.mem_of_getElem? (i := 22) rfl))) (Or.inr (hw _ (List.mem_of_getElem? (i := 26) rfl))) (by decide) (t := (.array .int)) (t' := .int) (by decide) (by decide)))
  have F_a_strides := F_a_strides.other W10 (Or.inr (slot_ne (Or.inr (hw _ (List.mem_of_getElem? (i := 24) rfl))) (Or.inr (hw _ (List.mem_of_getElem? (i := 26) rfl))) (by decide) (t := (.array .int)) (t' := .int) (by decide) (by decide)))
  have E_a := E_a.wr W10
  have E_b := E_b.wr W10
  have V_b := V_b.other W10 (Ne.symm hab)
  have E_b2 := E_b2.wr W10
  have V_b2 := V_b2.other W10 (Ne.symm ne_a_b2)
  have V_b3 := V_b3.other W10 (Ne.symm ne_a_b3)
  have Z0 := Nat.le_trans Z0 (Keep.of_wr W10).1
  have K := K.wr W10 (Or.inl (by simp))
  have N10 := Fr.snoc X10 N8 g_a
  refine own_via st10 ?_
  show own_G _ _ _ _ (T10.setTop (mkF m 145 #[.val (.ref a), .val (.ref b), .val (.long (1 : Int64)), .second, .val (.int (1 : Int32)), .val (.int ((0 : Int32) - (1 : Int32))), .val (.int (0 : Int32)), .unset] []))
  obtain ⟨fs, hr, hrun, hended, hW, hsame⟩ := X10.leave (v := none) (fun _ => rfl)
  refine ⟨_, _, ?_, hrun, hended, _, _, rfl, ?_, ⟨_, rfl⟩, hW, hsame.mono (by decide) (by decide)⟩
  · exact X10.returnOut hx Bd.returns (hb hby dc_145) hr
  · show Qc0 Z a b kk0 h0 n0 _ T10.heap _
    rw [e10]
    exact ⟨rfl, N10, K, E_a, b2, b3, _, g_b2, g_b3, F_a_levelCounts, V_b2, F_a_strides, V_b3, F_a_size⟩
theorem pn_c1 : plainName "com/example/vanon/vanon/lattice/Lattice" = true := by first | (simp [plainName, overriddenIn]; done) | decide +kernel
theorem ef_c1 (m : MethodId) (a : Addr) (b : Addr) : entryFrame m #[(.ref a), (.ref b)] 8 = (mkF m 0 #[.val (.ref a), .val (.ref b), .unset, .unset, .unset, .unset, .unset, .unset] []) := by first | (simp [entryFrame, mkF, argsToLocals, Value.category]; done) | rfl
def Qc1 (Z : State) (a : Addr) (b : Addr) (kk0 : ClassId) (c0 : Int32) (h0 : Heap) (n0 : Nat) (v : Option Value) (h : Heap) (L : List Loc) : Prop := v = none ∧ Fr n0 L ∧ Keep h0 h [a] ∧ Exa Z h a "com/example/vanon/vanon/lattice/Lattice" ∧ ∃ (b2 b3 : Addr) (k3 : ClassId), n0 ≤ b2 ∧ n0 ≤ b3 ∧ Fld Z h a "com/example/vanon/vanon/lattice/Lattice" "levelCounts" "[I" (.ref b2) ∧ Arv Z h b2 kk0 .int (1 : Int32) ([(.int c0)] : List Value) (.int (0 : Int32)) ∧ Fld Z h a "com/example/vanon/vanon/lattice/Lattice" "strides" "[I" (.ref b3) ∧ Arv Z h b3 k3 .int (1 : Int32) ([(.int (1 : Int32))] : List Value) (.int (0 : Int32)) ∧ Fld Z h a "com/example/vanon/vanon/lattice/Lattice" "size" "I" (.int (((1 : Int64) * (c0.toInt64)).toInt32))
set_option maxRecDepth 65536 in
set_option maxHeartbeats 40000000 in
theorem rmc1 (l : Launch) (Z : State) (a0 : Array Value) (hw : ∀ d ∈ tables_1, d.before a0 Z = true) (ws : List Jvm.Cond) (a : Addr) (b : Addr) (kk0 : ClassId) (c0 : Int32) (h0 : Heap) (n0 : Nat) (Z0 : n0 ≤ h0.size) (E_a : Exa Z h0 a "com/example/vanon/vanon/lattice/Lattice") (F_a_levelCounts : Fld Z h0 a "com/example/vanon/vanon/lattice/Lattice" "levelCounts" "[I" .null) (F_a_strides : Fld Z h0 a "com/example/vanon/vanon/lattice/Lattice" "strides" "[I" .null) (F_a_size : Fld Z h0 a "com/example/vanon/vanon/lattice/Lattice" "size" "I" (.int 0)) (E_b : Exa Z h0 b "[I") (V_b : Arv Z h0 b kk0 .int (1 : Int32) ([(.int c0)] : List Value) (.int (0 : Int32))) (g_a : n0 ≤ a) (hab : a ≠ b) (hp0 : 1 ≤ c0.toInt) (hq0 : ¬ (2147483639 : Int64) < ((1 : Int64) * (c0.toInt64))) :
    MetFree l (⟨"com/example/vanon/vanon/lattice/Lattice", "<init>", "([I)V"⟩ : MethodName) (head1 (Jvm.Cond.code (⟨"com/example/vanon/vanon/lattice/Lattice", "<init>", "([I)V"⟩ : MethodName) prog_16_method_1_code 8 none :: ws) ({ frames := 1, cells := 2, slots := 2, locals := 40 } : Room)) (fun as' U => as' = #[(.ref a), (.ref b)] ∧ Z.Warmed39 U.vm ∧ U.heap = h0) (fun _ _ _ _ _ => True) (fun _ U o U' => ∃ v L, o = .returned v ∧ Qc1 Z a b kk0 c0 h0 n0 v U'.heap L ∧ FrameEnd U o U' L ({ frames := 1, cells := 2, slots := 2, locals := 40 } : Room).cells ({ frames := 1, cells := 2, slots := 2, locals := 40 } : Room).slots) := by
  refine MetFree.of_bodySF (plainFor_of_name pn_c1) hisR ?_
  intro p e s m args below meth c s₁ Bd hml0 hP hK
  obtain ⟨rfl, hZ, hh⟩ := hP
  have hx := Bd.exec
  have hby := Bd.bytes
  have hml : c.maxLocals = 8 := hml0
  have hown : s.vm.findClass "com/example/vanon/vanon/lattice/Lattice" = some m.cls := findClass_of_methodNamed Bd.named
  have hnm := (name_of_methodNamed Bd.named Bd.method).1
  have X0 : Stand p l e ({ frames := 1, cells := 2, slots := 2, locals := 40 } : Room) s m #[(.ref a), (.ref b)] below meth c s₁ [] 0 0 := Stand.of_body Bd
  have e0 : s₁.heap = h0 := by rw [← hh, Bd.state]; rfl
  have N0 := Fr.nil n0
  have K : Keep h0 h0 [a] := Keep.refl _ _
  refine own_via (fun t k => castTop (ef_c1 m a b) k) ?_
  show own_G _ _ _ _ (s₁.setTop (mkF m 0 #[.val (.ref a), .val (.ref b), .unset, .unset, .unset, .unset, .unset, .unset] []))
  refine own_via (fun _ k => XS.aloadN X0.here hx rfl (hb hby dc_0) rfl rfl k) ?_
  show own_G _ _ _ _ (s₁.setTop (mkF m 1 #[.val (.ref a), .val (.ref b), .unset, .unset, .unset, .unset, .unset, .unset] [(.ref a)]))
  obtain ⟨T11, X11, e11, st11⟩ := initO X0 hx hZ hown (hw _ (List.mem_of_getElem? (i := 9) rfl)) (hw _ (List.mem_of_getElem? (i := 10) rfl)) (hw _ (List.mem_of_getElem? (i := 11) rfl)) e0 (g := (mkF m 1 #[.val (.ref a), .val (.ref b), .unset, .unset, .unset, .unset, .unset, .unset] [(.ref a)])) rfl (by rw [hml]; rfl) rfl (hb hby dc_1) (by decide) (W := 0) (by show 2 * 0 + _ ≤ _; exact Nat.le_of_eq rfl) (by decide)
  refine own_via st11 ?_
  show own_G _ _ _ _ (T11.setTop (mkF m 4 #[.val (.ref a), .val (.ref b), .unset, .unset, .unset, .unset, .unset, .unset] []))
  refine own_via (fun _ k => XS.lconst X11.here hx rfl (hb hby dc_4) k) ?_
  show own_G _ _ _ _ (T11.setTop (mkF m 5 #[.val (.ref a), .val (.ref b), .unset, .unset, .unset, .unset, .unset, .unset] [(.long (1 : Int64))]))
  refine own_via (fun _ k => XS.lstoreN X11.here hx rfl (hb hby dc_5) rfl (l' := #[.val (.ref a), .val (.ref b), .val (.long (1 : Int64)), .second, .unset, .unset, .unset, .unset]) rfl k) ?_
  show own_G _ _ _ _ (T11.setTop (mkF m 6 #[.val (.ref a), .val (.ref b), .val (.long (1 : Int64)), .second, .unset, .unset, .unset, .unset] []))
  refine own_via (fun _ k => XS.aloadN X11.here hx rfl (hb hby dc_6) rfl rfl k) ?_
  show own_G _ _ _ _ (T11.setTop (mkF m 7 #[.val (.ref a), .val (.ref b), .val (.long (1 : Int64)), .second, .unset, .unset, .unset, .unset] [(.ref b)]))
  refine own_via (fun _ k => XS.astore X11.here hx rfl (hb hby dc_7) rfl rfl (l' := #[.val (.ref a), .val (.ref b), .val (.long (1 : Int64)), .second, .val (.ref b), .unset, .unset, .unset]) rfl k) ?_
  show own_G _ _ _ _ (T11.setTop (mkF m 9 #[.val (.ref a), .val (.ref b), .val (.long (1 : Int64)), .second, .val (.ref b), .unset, .unset, .unset] []))
  refine own_via (fun _ k => XS.aload X11.here hx rfl (hb hby dc_9) rfl rfl k) ?_
  show own_G _ _ _ _ (T11.setTop (mkF m 11 #[.val (.ref a), .val (.ref b), .val (.long (1 : Int64)), .second, .val (.ref b), .unset, .unset, .unset] [(.ref b)]))
  obtain ⟨cl12, Ar12, -, Sz12, Nn12, -, -⟩ := id V_b
  refine own_via (fun _ k => X11.arraylength hx (by rw [e11]; exact Ar12.1) (State.isArrayOf_alike hZ.alike Ar12.2.1) (g := (mkF m 11 #[.val (.ref a), .val (.ref b), .val (.long (1 : Int64)), .second, .val (.ref b), .unset, .unset, .unset] [(.ref b)])) rfl rfl (hb hby dc_11) _ k) ?_
  rw [len_of Sz12 Nn12]
  show own_G _ _ _ _ (T11.setTop (mkF m 12 #[.val (.ref a), .val (.ref b), .val (.long (1 : Int64)), .second, .val (.ref b), .unset, .unset, .unset] [(.int (1 : Int32))]))
  refine own_via (fun _ k => XS.istore X11.here hx rfl (hb hby dc_12) rfl (l' := #[.val (.ref a), .val (.ref b), .val (.long (1 : Int64)), .second, .val (.ref b), .val (.int (1 : Int32)), .unset, .unset]) rfl k) ?_
  show own_G _ _ _ _ (T11.setTop (mkF m 14 #[.val (.ref a), .val (.ref b), .val (.long (1 : Int64)), .second, .val (.ref b), .val (.int (1 : Int32)), .unset, .unset] []))
  refine own_via (fun _ k => XS.iconst X11.here hx rfl (hb hby dc_14) k) ?_
  show own_G _ _ _ _ (T11.setTop (mkF m 15 #[.val (.ref a), .val (.ref b), .val (.long (1 : Int64)), .second, .val (.ref b), .val (.int (1 : Int32)), .unset, .unset] [(.int (0 : Int32))]))
  refine own_via (fun _ k => XS.istore X11.here hx rfl (hb hby dc_15) rfl (l' := #[.val (.ref a), .val (.ref b), .val (.long (1 : Int64)), .second, .val (.ref b), .val (.int (1 : Int32)), .val (.int (0 : Int32)), .unset]) rfl k) ?_
  show own_G _ _ _ _ (T11.setTop (mkF m 17 #[.val (.ref a), .val (.ref b), .val (.long (1 : Int64)), .second, .val (.ref b), .val (.int (1 : Int32)), .val (.int (0 : Int32)), .unset] []))
  refine own_via (fun _ k => XS.iload X11.here hx rfl (hb hby dc_17) rfl k) ?_
  show own_G _ _ _ _ (T11.setTop (mkF m 19 #[.val (.ref a), .val (.ref b), .val (.long (1 : Int64)), .second, .val (.ref b), .val (.int (1 : Int32)), .val (.int (0 : Int32)), .unset] [(.int (0 : Int32))]))
  refine own_via (fun _ k => XS.iload X11.here hx rfl (hb hby dc_19) rfl k) ?_
  show own_G _ _ _ _ (T11.setTop (mkF m 21 #[.val (.ref a), .val (.ref b), .val (.long (1 : Int64)), .second, .val (.ref b), .val (.int (1 : Int32)), .val (.int (0 : Int32)), .unset] [(.int (1 : Int32)), (.int (0 : Int32))]))
  refine own_via (fun _ k => XS.icmpNo X11.here hx rfl (hb hby dc_21) rfl (tlt (by decide)).2.1 k) ?_
  show own_G _ _ _ _ (T11.setTop (mkF m 24 #[.val (.ref a), .val (.ref b), .val (.long (1 : Int64)), .second, .val (.ref b), .val (.int (1 : Int32)), .val (.int (0 : Int32)), .unset] []))
  refine own_via (fun _ k => XS.aload X11.here hx rfl (hb hby dc_24) rfl rfl k) ?_
  show own_G _ _ _ _ (T11.setTop (mkF m 26 #[.val (.ref a), .val (.ref b), .val (.long (1 : Int64)), .second, .val (.ref b), .val (.int (1 : Int32)), .val (.int (0 : Int32)), .unset] [(.ref b)]))
  refine own_via (fun _ k => XS.iload X11.here hx rfl (hb hby dc_26) rfl k) ?_
  show own_G _ _ _ _ (T11.setTop (mkF m 28 #[.val (.ref a), .val (.ref b), .val (.long (1 : Int64)), .second, .val (.ref b), .val (.int (1 : Int32)), .val (.int (0 : Int32)), .unset] [(.int (0 : Int32)), (.ref b)]))
  obtain ⟨cl13, Ar13, -, Sz13, Nn13, Hh13, -⟩ := id V_b
  have hin13 : ¬ ((0 : Int32) < 0 ∨ cl13.slots.size ≤ ((0 : Int32)).toNatClampNeg) := inb_of Sz13 ⟨by decide, by decide⟩
  have hat13 : cl13.slots[((0 : Int32)).toNatClampNeg]? = some (.int c0) := Has.at Hh13 hin13 rfl
  refine own_via (fun _ k => X11.iaload hx (j := (0 : Int32)) (v := (.int c0)) (by rw [e11]; exact Ar13.1) (State.isArrayOf_alike hZ.alike Ar13.2.1) Ar13.2.2 hin13 hat13 (g := (mkF m 28 #[.val (.ref a), .val (.ref b), .val (.long (1 : Int64)), .second, .val (.ref b), .val (.int (1 : Int32)), .val (.int (0 : Int32)), .unset] [(.int (0 : Int32)), (.ref b)])) rfl rfl (hb hby dc_28) _ k) ?_
  show own_G _ _ _ _ (T11.setTop (mkF m 29 #[.val (.ref a), .val (.ref b), .val (.long (1 : Int64)), .second, .val (.ref b), .val (.int (1 : Int32)), .val (.int (0 : Int32)), .unset] [(.int c0)]))
  refine own_via (fun _ k => XS.istore X11.here hx rfl (hb hby dc_29) rfl (l' := #[.val (.ref a), .val (.ref b), .val (.long (1 : Int64)), .second, .val (.ref b), .val (.int (1 : Int32)), .val (.int (0 : Int32)), .val (.int c0)]) rfl k) ?_
  show own_G _ _ _ _ (T11.setTop (mkF m 31 #[.val (.ref a), .val (.ref b), .val (.long (1 : Int64)), .second, .val (.ref b), .val (.int (1 : Int32)), .val (.int (0 : Int32)), .val (.int c0)] []))
  refine own_via (fun _ k => XS.iload X11.here hx rfl (hb hby dc_31) rfl k) ?_
  show own_G _ _ _ _ (T11.setTop (mkF m 33 #[.val (.ref a), .val (.ref b), .val (.long (1 : Int64)), .second, .val (.ref b), .val (.int (1 : Int32)), .val (.int (0 : Int32)), .val (.int c0)] [(.int c0)]))
  refine own_via (fun _ k => XS.iconst X11.here hx rfl (hb hby dc_33) k) ?_
  show own_G _ _ _ _ (T11.setTop (mkF m 34 #[.val (.ref a), .val (.ref b), .val (.long (1 : Int64)), .second, .val (.ref b), .val (.int (1 : Int32)), .val (.int (0 : Int32)), .val (.int c0)] [(.int (1 : Int32)), (.int c0)]))
  refine own_via (fun _ k => XS.icmpYes X11.here hx rfl (pc0 := 34) (pc' := 52) rfl (hb hby dc_34) rfl (flt (own_ge1 hp0)).2.1 (by decide) (by decide) k) ?_
  show own_G _ _ _ _ (T11.setTop (mkF m 52 #[.val (.ref a), .val (.ref b), .val (.long (1 : Int64)), .second, .val (.ref b), .val (.int (1 : Int32)), .val (.int (0 : Int32)), .val (.int c0)] []))
  refine own_via (fun _ k => XS.lloadN X11.here hx rfl (hb hby dc_52) rfl k) ?_
  show own_G _ _ _ _ (T11.setTop (mkF m 53 #[.val (.ref a), .val (.ref b), .val (.long (1 : Int64)), .second, .val (.ref b), .val (.int (1 : Int32)), .val (.int (0 : Int32)), .val (.int c0)] [(.long (1 : Int64))]))
  refine own_via (fun _ k => XS.iload X11.here hx rfl (hb hby dc_53) rfl k) ?_
  show own_G _ _ _ _ (T11.setTop (mkF m 55 #[.val (.ref a), .val (.ref b), .val (.long (1 : Int64)), .second, .val (.ref b), .val (.int (1 : Int32)), .val (.int (0 : Int32)), .val (.int c0)] [(.int c0), (.long (1 : Int64))]))
  refine own_via (fun _ k => XS.i2l X11.here hx rfl (hb hby dc_55) rfl k) ?_
  show own_G _ _ _ _ (T11.setTop (mkF m 56 #[.val (.ref a), .val (.ref b), .val (.long (1 : Int64)), .second, .val (.ref b), .val (.int (1 : Int32)), .val (.int (0 : Int32)), .val (.int c0)] [(.long (c0.toInt64)), (.long (1 : Int64))]))
  refine own_via (fun _ k => XS.lmul X11.here hx rfl (hb hby dc_56) rfl k) ?_
  show own_G _ _ _ _ (T11.setTop (mkF m 57 #[.val (.ref a), .val (.ref b), .val (.long (1 : Int64)), .second, .val (.ref b), .val (.int (1 : Int32)), .val (.int (0 : Int32)), .val (.int c0)] [(.long ((1 : Int64) * (c0.toInt64)))]))
  refine own_via (fun _ k => XS.lstoreN X11.here hx rfl (hb hby dc_57) rfl (l' := #[.val (.ref a), .val (.ref b), .val (.long ((1 : Int64) * (c0.toInt64))), .second, .val (.ref b), .val (.int (1 : Int32)), .val (.int (0 : Int32)), .val (.int c0)]) rfl k) ?_
  show own_G _ _ _ _ (T11.setTop (mkF m 58 #[.val (.ref a), .val (.ref b), .val (.long ((1 : Int64) * (c0.toInt64))), .second, .val (.ref b), .val (.int (1 : Int32)), .val (.int (0 : Int32)), .val (.int c0)] []))
  refine own_via (fun _ k => XS.lloadN X11.here hx rfl (hb hby dc_58) rfl k) ?_
  show own_G _ _ _ _ (T11.setTop (mkF m 59 #[.val (.ref a), .val (.ref b), .val (.long ((1 : Int64) * (c0.toInt64))), .second, .val (.ref b), .val (.int (1 : Int32)), .val (.int (0 : Int32)), .val (.int c0)] [(.long ((1 : Int64) * (c0.toInt64)))]))
  refine own_via (fun _ k => X11.ldc2Long hx hown (mvT hZ (hw _ (List.mem_of_getElem? (i := 32) rfl))) (g := (mkF m 59 #[.val (.ref a), .val (.ref b), .val (.long ((1 : Int64) * (c0.toInt64))), .second, .val (.ref b), .val (.int (1 : Int32)), .val (.int (0 : Int32)), .val (.int c0)] [(.long ((1 : Int64) * (c0.toInt64)))])) rfl (hb hby dc_59) _ k) ?_
  show own_G _ _ _ _ (T11.setTop (mkF m 62 #[.val (.ref a), .val (.ref b), .val (.long ((1 : Int64) * (c0.toInt64))), .second, .val (.ref b), .val (.int (1 : Int32)), .val (.int (0 : Int32)), .val (.int c0)] [(.long (2147483639 : Int64)), (.long ((1 : Int64) * (c0.toInt64)))]))
  refine own_via (fun _ k => XS.lcmp X11.here hx rfl (hb hby dc_62) rfl k) ?_
  show own_G _ _ _ _ (T11.setTop (mkF m 63 #[.val (.ref a), .val (.ref b), .val (.long ((1 : Int64) * (c0.toInt64))), .second, .val (.ref b), .val (.int (1 : Int32)), .val (.int (0 : Int32)), .val (.int c0)] [(.int (lcmpW ((1 : Int64) * (c0.toInt64)) (2147483639 : Int64)))]))
  refine own_via (fun _ k => XS.ifYes X11.here hx rfl (pc0 := 63) (pc' := 76) rfl (hb hby dc_63) rfl ((if0 _ _).trans (flt (fun z => hq0 ((lw_gt _ _).mp z))).2.2.2) (by decide) (by decide) k) ?_
  show own_G _ _ _ _ (T11.setTop (mkF m 76 #[.val (.ref a), .val (.ref b), .val (.long ((1 : Int64) * (c0.toInt64))), .second, .val (.ref b), .val (.int (1 : Int32)), .val (.int (0 : Int32)), .val (.int c0)] []))
  refine own_via (fun _ k => XS.iinc X11.here hx rfl (hb hby dc_76) rfl (l' := #[.val (.ref a), .val (.ref b), .val (.long ((1 : Int64) * (c0.toInt64))), .second, .val (.ref b), .val (.int (1 : Int32)), .val (.int ((0 : Int32) + (1 : Int32))), .val (.int c0)]) rfl k) ?_
  show own_G _ _ _ _ (T11.setTop (mkF m 79 #[.val (.ref a), .val (.ref b), .val (.long ((1 : Int64) * (c0.toInt64))), .second, .val (.ref b), .val (.int (1 : Int32)), .val (.int ((0 : Int32) + (1 : Int32))), .val (.int c0)] []))
  refine own_via (fun _ k => XS.goto X11.here hx rfl (pc0 := 79) (pc' := 17) rfl (hb hby dc_79) (by decide) (by decide) k) ?_
  show own_G _ _ _ _ (T11.setTop (mkF m 17 #[.val (.ref a), .val (.ref b), .val (.long ((1 : Int64) * (c0.toInt64))), .second, .val (.ref b), .val (.int (1 : Int32)), .val (.int ((0 : Int32) + (1 : Int32))), .val (.int c0)] []))
  refine own_via (fun _ k => XS.iload X11.here hx rfl (hb hby dc_17) rfl k) ?_
  show own_G _ _ _ _ (T11.setTop (mkF m 19 #[.val (.ref a), .val (.ref b), .val (.long ((1 : Int64) * (c0.toInt64))), .second, .val (.ref b), .val (.int (1 : Int32)), .val (.int ((0 : Int32) + (1 : Int32))), .val (.int c0)] [(.int ((0 : Int32) + (1 : Int32)))]))
  refine own_via (fun _ k => XS.iload X11.here hx rfl (hb hby dc_19) rfl k) ?_
  show own_G _ _ _ _ (T11.setTop (mkF m 21 #[.val (.ref a), .val (.ref b), .val (.long ((1 : Int64) * (c0.toInt64))), .second, .val (.ref b), .val (.int (1 : Int32)), .val (.int ((0 : Int32) + (1 : Int32))), .val (.int c0)] [(.int (1 : Int32)), (.int ((0 : Int32) + (1 : Int32)))]))
  refine own_via (fun _ k => XS.icmpYes X11.here hx rfl (pc0 := 21) (pc' := 82) rfl (hb hby dc_21) rfl (flt (by decide)).2.1 (by decide) (by decide) k) ?_
  show own_G _ _ _ _ (T11.setTop (mkF m 82 #[.val (.ref a), .val (.ref b), .val (.long ((1 : Int64) * (c0.toInt64))), .second, .val (.ref b), .val (.int (1 : Int32)), .val (.int ((0 : Int32) + (1 : Int32))), .val (.int c0)] []))
  refine own_via (fun _ k => XS.aloadN X11.here hx rfl (hb hby dc_82) rfl rfl k) ?_
  show own_G _ _ _ _ (T11.setTop (mkF m 83 #[.val (.ref a), .val (.ref b), .val (.long ((1 : Int64) * (c0.toInt64))), .second, .val (.ref b), .val (.int (1 : Int32)), .val (.int ((0 : Int32) + (1 : Int32))), .val (.int c0)] [(.ref a)]))
  refine own_via (fun _ k => XS.aloadN X11.here hx rfl (hb hby dc_83) rfl rfl k) ?_
  show own_G _ _ _ _ (T11.setTop (mkF m 84 #[.val (.ref a), .val (.ref b), .val (.long ((1 : Int64) * (c0.toInt64))), .second, .val (.ref b), .val (.int (1 : Int32)), .val (.int ((0 : Int32) + (1 : Int32))), .val (.int c0)] [(.ref b), (.ref a)]))
  obtain ⟨T14, h14, X14, e14, E14, V14, EA14, st14⟩ := cloneH X11 hx hZ hown (hw _ (List.mem_of_getElem? (i := 12) rfl)) (hw _ (List.mem_of_getElem? (i := 13) rfl)) (hw _ (List.mem_of_getElem? (i := 17) rfl)) (hw _ (List.mem_of_getElem? (i := 15) rfl)) (hw _ (List.mem_of_getElem? (i := 16) rfl)) (hw _ (List.mem_of_getElem? (i := 18) rfl)) e11 V_b.arh E_b (g := (mkF m 84 #[.val (.ref a), .val (.ref b), .val (.long ((1 : Int64) * (c0.toInt64))), .second, .val (.ref b), .val (.int (1 : Int32)), .val (.int ((0 : Int32) + (1 : Int32))), .val (.int c0)] [(.ref b), (.ref a)])) rfl (by rw [hml]; rfl) rfl (hb hby dc_84) (by decide) (W := 1) (cap := 1) (by show 2 * 0 + _ ≤ _; exact Nat.le_of_eq rfl) (by decide) (by decide) (by decide) (by decide)
  obtain ⟨b2, g14⟩ : ∃ z, z = h0.size := ⟨_, rfl⟩
  rw [← g14] at V14 EA14 st14
  have g_b2 : n0 ≤ b2 := Nat.le_trans Z0 (Nat.le_of_eq g14.symm)
  have sz_b2 : h0.size ≤ b2 := Nat.le_trans K.1 (Nat.le_of_eq g14.symm)
  have ne_a_b2 : a ≠ b2 := Nat.ne_of_lt (Nat.lt_of_lt_of_le E_a.lt (Nat.le_of_eq g14.symm))
  have ne_b_b2 : b ≠ b2 := Nat.ne_of_lt (Nat.lt_of_lt_of_le E_b.lt (Nat.le_of_eq g14.symm))
  have E_a := E_a.ext E14
  have F_a_levelCounts := F_a_levelCounts.ext E14
  have F_a_strides := F_a_strides.ext E14
  have F_a_size := F_a_size.ext E14
  have E_b := E_b.ext E14
  have V_b := V_b.ext E14
  have Z0 := Nat.le_trans Z0 E14.1
  have K := K.ext E14
  have E_b2 := EA14
  have V_b2 : Arv Z h14 b2 kk0 .int (1 : Int32) ([(.int c0)] : List Value) (.int (0 : Int32)) := V14
  refine own_via st14 ?_
  show own_G _ _ _ _ (T14.setTop (mkF m 87 #[.val (.ref a), .val (.ref b), .val (.long ((1 : Int64) * (c0.toInt64))), .second, .val (.ref b), .val (.int (1 : Int32)), .val (.int ((0 : Int32) + (1 : Int32))), .val (.int c0)] [(.ref b2), (.ref a)]))
  obtain ⟨T15, X15, e15, st15⟩ := castY X14 hx hZ hown (hw _ (List.mem_of_getElem? (i := 19) rfl)) e14 (Ins.self E_b2) (g := (mkF m 87 #[.val (.ref a), .val (.ref b), .val (.long ((1 : Int64) * (c0.toInt64))), .second, .val (.ref b), .val (.int (1 : Int32)), .val (.int ((0 : Int32) + (1 : Int32))), .val (.int c0)] [(.ref b2), (.ref a)])) rfl rfl (hb hby dc_87)
  refine own_via st15 ?_
  show own_G _ _ _ _ (T15.setTop (mkF m 90 #[.val (.ref a), .val (.ref b), .val (.long ((1 : Int64) * (c0.toInt64))), .second, .val (.ref b), .val (.int (1 : Int32)), .val (.int ((0 : Int32) + (1 : Int32))), .val (.int c0)] [(.ref b2), (.ref a)]))
  obtain ⟨T16, h16, X16, e16, W16, st16⟩ := putF X15 hx hZ hown (host := "") (Or.inl (hw _ (List.mem_of_getElem? (i := 21) rfl))) Via.refl e15 F_a_levelCounts E_a (Or.inr ⟨(hw _ (List.mem_of_getElem? (i := 22) rfl)), rfl, hnm⟩) (hw _ (List.mem_of_getElem? (i := 4) rfl)) (ty := (.array .int)) (by decide) rfl rfl (g := (mkF m 90 #[.val (.ref a), .val (.ref b), .val (.long ((1 : Int64) * (c0.toInt64))), .second, .val (.ref b), .val (.int (1 : Int32)), .val (.int ((0 : Int32) + (1 : Int32))), .val (.int c0)] [(.ref b2), (.ref a)])) rfl rfl (hb hby dc_90)
  have F_a_levelCounts := F_a_levelCounts.same W16
  have F_a_strides := F_a_strides.other W16 (Or.inr (slot_ne (Or.inr (hw _ (List.mem_of_getElem? (i := 24) rfl))) (Or.inr (hw _ (List.mem_of_getElem? (i := 22) rfl))) (by decide) (t := (.array .int)) (t' := (.array .int)) (by decide) (by decide)))
  have F_a_size := F_a_size.other W16 (Or.inr (slot_ne (Or.inr (hw _ (List.mem_of_getElem? (i := 26) rfl))) (Or.inr (hw _ (List.mem_of_getElem? (i := 22) rfl))) (by decide) (t := .int) (t' := (.array .int)) (by decide) (by decide)))
  have E_a := E_a.wr W16
  have E_b := E_b.wr W16
  have V_b := V_b.other W16 (Ne.symm hab)
  have E_b2 := E_b2.wr W16
  have V_b2 := V_b2.other W16 (Ne.symm ne_a_b2)
  have Z0 := Nat.le_trans Z0 (Keep.of_wr W16).1
  have K := K.wr W16 (Or.inl (by simp))
  have N16 := Fr.snoc X16 N0 g_a
  refine own_via st16 ?_
  show own_G _ _ _ _ (T16.setTop (mkF m 93 #[.val (.ref a), .val (.ref b), .val (.long ((1 : Int64) * (c0.toInt64))), .second, .val (.ref b), .val (.int (1 : Int32)), .val (.int ((0 : Int32) + (1 : Int32))), .val (.int c0)] []))
  refine own_via (fun _ k => XS.aloadN X16.here hx rfl (hb hby dc_93) rfl rfl k) ?_
  show own_G _ _ _ _ (T16.setTop (mkF m 94 #[.val (.ref a), .val (.ref b), .val (.long ((1 : Int64) * (c0.toInt64))), .second, .val (.ref b), .val (.int (1 : Int32)), .val (.int ((0 : Int32) + (1 : Int32))), .val (.int c0)] [(.ref a)]))
  refine own_via (fun _ k => XS.aloadN X16.here hx rfl (hb hby dc_94) rfl rfl k) ?_
  show own_G _ _ _ _ (T16.setTop (mkF m 95 #[.val (.ref a), .val (.ref b), .val (.long ((1 : Int64) * (c0.toInt64))), .second, .val (.ref b), .val (.int (1 : Int32)), .val (.int ((0 : Int32) + (1 : Int32))), .val (.int c0)] [(.ref b), (.ref a)]))
  obtain ⟨cl17, Ar17, -, Sz17, Nn17, -, -⟩ := id V_b
  refine own_via (fun _ k => X16.arraylength hx (by rw [e16]; exact Ar17.1) (State.isArrayOf_alike hZ.alike Ar17.2.1) (g := (mkF m 95 #[.val (.ref a), .val (.ref b), .val (.long ((1 : Int64) * (c0.toInt64))), .second, .val (.ref b), .val (.int (1 : Int32)), .val (.int ((0 : Int32) + (1 : Int32))), .val (.int c0)] [(.ref b), (.ref a)])) rfl rfl (hb hby dc_95) _ k) ?_
  rw [len_of Sz17 Nn17]
  show own_G _ _ _ _ (T16.setTop (mkF m 96 #[.val (.ref a), .val (.ref b), .val (.long ((1 : Int64) * (c0.toInt64))), .second, .val (.ref b), .val (.int (1 : Int32)), .val (.int ((0 : Int32) + (1 : Int32))), .val (.int c0)] [(.int (1 : Int32)), (.ref a)]))
  obtain ⟨T18, h18, k_b3, X18, e18, E18, A18, st18⟩ := newP X16 hx hZ (hw _ (List.mem_of_getElem? (i := 2) rfl)) e16 (g := (mkF m 96 #[.val (.ref a), .val (.ref b), .val (.long ((1 : Int64) * (c0.toInt64))), .second, .val (.ref b), .val (.int (1 : Int32)), .val (.int ((0 : Int32) + (1 : Int32))), .val (.int c0)] [(.int (1 : Int32)), (.ref a)])) rfl (hb hby dc_96) rfl (by decide) (cap := 1) (by decide) (by decide) (by decide) (by decide)
  obtain ⟨b3, g18⟩ : ∃ z, z = h16.size := ⟨_, rfl⟩
  rw [← g18] at A18 st18
  have g_b3 : n0 ≤ b3 := Nat.le_trans Z0 (Nat.le_of_eq g18.symm)
  have sz_b3 : h0.size ≤ b3 := Nat.le_trans K.1 (Nat.le_of_eq g18.symm)
  have ne_a_b3 : a ≠ b3 := Nat.ne_of_lt (Nat.lt_of_lt_of_le E_a.lt (Nat.le_of_eq g18.symm))
  have ne_b_b3 : b ≠ b3 := Nat.ne_of_lt (Nat.lt_of_lt_of_le E_b.lt (Nat.le_of_eq g18.symm))
  have ne_b2_b3 : b2 ≠ b3 := Nat.ne_of_lt (Nat.lt_of_lt_of_le E_b2.lt (Nat.le_of_eq g18.symm))
  have E_a := E_a.ext E18
  have F_a_levelCounts := F_a_levelCounts.ext E18
  have F_a_strides := F_a_strides.ext E18
  have F_a_size := F_a_size.ext E18
  have E_b := E_b.ext E18
  have V_b := V_b.ext E18
  have E_b2 := E_b2.ext E18
  have V_b2 := V_b2.ext E18
  have Z0 := Nat.le_trans Z0 E18.1
  have K := K.ext E18
  have V_b3 : Arv Z h18 b3 k_b3 .int (1 : Int32) [(.int (0 : Int32))] (.int (0 : Int32)) := (Arv.new A18 (by decide)).pad (pad_rep [] (.int (0 : Int32)) 1)
  refine own_via st18 ?_
  show own_G _ _ _ _ (T18.setTop (mkF m 98 #[.val (.ref a), .val (.ref b), .val (.long ((1 : Int64) * (c0.toInt64))), .second, .val (.ref b), .val (.int (1 : Int32)), .val (.int ((0 : Int32) + (1 : Int32))), .val (.int c0)] [(.ref b3), (.ref a)]))
  obtain ⟨T19, h19, X19, e19, W19, st19⟩ := putF X18 hx hZ hown (host := "") (Or.inl (hw _ (List.mem_of_getElem? (i := 23) rfl))) Via.refl e18 F_a_strides E_a (Or.inr ⟨(hw _ (List.mem_of_getElem? (i := 24) rfl)), rfl, hnm⟩) (hw _ (List.mem_of_getElem? (i := 4) rfl)) (ty := (.array .int)) (by decide) rfl rfl (g := (mkF m 98 #[.val (.ref a), .val (.ref b), .val (.long ((1 : Int64) * (c0.toInt64))), .second, .val (.ref b), .val (.int (1 : Int32)), .val (.int ((0 : Int32) + (1 : Int32))), .val (.int c0)] [(.ref b3), (.ref a)])) rfl rfl (hb hby dc_98)
  have F_a_strides := F_a_strides.same W19
  have F_a_levelCounts := F_a_levelCounts.other W19 (Or.inr (slot_ne (Or.inr (hw _ (List.mem_of_getElem? (i := 22) rfl))) (Or.inr (hw _ (List.mem_of_getElem? (i := 24) rfl))) (by decide) (t := (.array .int)) (t' := (.array .int)) (by decide) (by decide)))
  have F_a_size := F_a_size.other W19 (Or.inr (slot_ne (Or.inr (hw _ (List.mem_of_getElem? (i := 26) rfl))) (Or.inr (hw _ (List.mem_of_getElem? (i := 24) rfl))) (by decide) (t := .int) (t' := (.array .int)) (by decide) (by decide)))
  have E_a := E_a.wr W19
  have E_b := E_b.wr W19
  have V_b := V_b.other W19 (Ne.symm hab)
  have E_b2 := E_b2.wr W19
  have V_b2 := V_b2.other W19 (Ne.symm ne_a_b2)
  have V_b3 := V_b3.other W19 (Ne.symm ne_a_b3)
  have Z0 := Nat.le_trans Z0 (Keep.of_wr W19).1
  have K := K.wr W19 (Or.inl (by simp))
  have N19 := Fr.snoc X19 N16 g_a
  refine own_via st19 ?_
  show own_G _ _ _ _ (T19.setTop (mkF m 101 #[.val (.ref a), .val (.ref b), .val (.long ((1 : Int64) * (c0.toInt64))), .second, .val (.ref b), .val (.int (1 : Int32)), .val (.int ((0 : Int32) + (1 : Int32))), .val (.int c0)] []))
  refine own_via (fun _ k => XS.iconst X19.here hx rfl (hb hby dc_101) k) ?_
  show own_G _ _ _ _ (T19.setTop (mkF m 102 #[.val (.ref a), .val (.ref b), .val (.long ((1 : Int64) * (c0.toInt64))), .second, .val (.ref b), .val (.int (1 : Int32)), .val (.int ((0 : Int32) + (1 : Int32))), .val (.int c0)] [(.int (1 : Int32))]))
  refine own_via (fun _ k => XS.istore X19.here hx rfl (hb hby dc_102) rfl (l' := #[.val (.ref a), .val (.ref b), .val (.long ((1 : Int64) * (c0.toInt64))), .second, .val (.int (1 : Int32)), .val (.int (1 : Int32)), .val (.int ((0 : Int32) + (1 : Int32))), .val (.int c0)]) rfl k) ?_
  show own_G _ _ _ _ (T19.setTop (mkF m 104 #[.val (.ref a), .val (.ref b), .val (.long ((1 : Int64) * (c0.toInt64))), .second, .val (.int (1 : Int32)), .val (.int (1 : Int32)), .val (.int ((0 : Int32) + (1 : Int32))), .val (.int c0)] []))
  refine own_via (fun _ k => XS.aloadN X19.here hx rfl (hb hby dc_104) rfl rfl k) ?_
  show own_G _ _ _ _ (T19.setTop (mkF m 105 #[.val (.ref a), .val (.ref b), .val (.long ((1 : Int64) * (c0.toInt64))), .second, .val (.int (1 : Int32)), .val (.int (1 : Int32)), .val (.int ((0 : Int32) + (1 : Int32))), .val (.int c0)] [(.ref b)]))
  obtain ⟨cl20, Ar20, -, Sz20, Nn20, -, -⟩ := id V_b
  refine own_via (fun _ k => X19.arraylength hx (by rw [e19]; exact Ar20.1) (State.isArrayOf_alike hZ.alike Ar20.2.1) (g := (mkF m 105 #[.val (.ref a), .val (.ref b), .val (.long ((1 : Int64) * (c0.toInt64))), .second, .val (.int (1 : Int32)), .val (.int (1 : Int32)), .val (.int ((0 : Int32) + (1 : Int32))), .val (.int c0)] [(.ref b)])) rfl rfl (hb hby dc_105) _ k) ?_
  rw [len_of Sz20 Nn20]
  show own_G _ _ _ _ (T19.setTop (mkF m 106 #[.val (.ref a), .val (.ref b), .val (.long ((1 : Int64) * (c0.toInt64))), .second, .val (.int (1 : Int32)), .val (.int (1 : Int32)), .val (.int ((0 : Int32) + (1 : Int32))), .val (.int c0)] [(.int (1 : Int32))]))
  refine own_via (fun _ k => XS.iconst X19.here hx rfl (hb hby dc_106) k) ?_
  show own_G _ _ _ _ (T19.setTop (mkF m 107 #[.val (.ref a), .val (.ref b), .val (.long ((1 : Int64) * (c0.toInt64))), .second, .val (.int (1 : Int32)), .val (.int (1 : Int32)), .val (.int ((0 : Int32) + (1 : Int32))), .val (.int c0)] [(.int (1 : Int32)), (.int (1 : Int32))]))
  refine own_via (fun _ k => XS.isub X19.here hx rfl (hb hby dc_107) rfl k) ?_
  show own_G _ _ _ _ (T19.setTop (mkF m 108 #[.val (.ref a), .val (.ref b), .val (.long ((1 : Int64) * (c0.toInt64))), .second, .val (.int (1 : Int32)), .val (.int (1 : Int32)), .val (.int ((0 : Int32) + (1 : Int32))), .val (.int c0)] [(.int ((1 : Int32) - (1 : Int32)))]))
  refine own_via (fun _ k => XS.istore X19.here hx rfl (hb hby dc_108) rfl (l' := #[.val (.ref a), .val (.ref b), .val (.long ((1 : Int64) * (c0.toInt64))), .second, .val (.int (1 : Int32)), .val (.int ((1 : Int32) - (1 : Int32))), .val (.int ((0 : Int32) + (1 : Int32))), .val (.int c0)]) rfl k) ?_
  show own_G _ _ _ _ (T19.setTop (mkF m 110 #[.val (.ref a), .val (.ref b), .val (.long ((1 : Int64) * (c0.toInt64))), .second, .val (.int (1 : Int32)), .val (.int ((1 : Int32) - (1 : Int32))), .val (.int ((0 : Int32) + (1 : Int32))), .val (.int c0)] []))
  refine own_via (fun _ k => XS.iload X19.here hx rfl (hb hby dc_110) rfl k) ?_
  show own_G _ _ _ _ (T19.setTop (mkF m 112 #[.val (.ref a), .val (.ref b), .val (.long ((1 : Int64) * (c0.toInt64))), .second, .val (.int (1 : Int32)), .val (.int ((1 : Int32) - (1 : Int32))), .val (.int ((0 : Int32) + (1 : Int32))), .val (.int c0)] [(.int ((1 : Int32) - (1 : Int32)))]))
  refine own_via (fun _ k => XS.ifNo X19.here hx rfl (hb hby dc_112) rfl ((if0 _ _).trans (flt (by decide)).1) k) ?_
  show own_G _ _ _ _ (T19.setTop (mkF m 115 #[.val (.ref a), .val (.ref b), .val (.long ((1 : Int64) * (c0.toInt64))), .second, .val (.int (1 : Int32)), .val (.int ((1 : Int32) - (1 : Int32))), .val (.int ((0 : Int32) + (1 : Int32))), .val (.int c0)] []))
  refine own_via (fun _ k => XS.aloadN X19.here hx rfl (hb hby dc_115) rfl rfl k) ?_
  show own_G _ _ _ _ (T19.setTop (mkF m 116 #[.val (.ref a), .val (.ref b), .val (.long ((1 : Int64) * (c0.toInt64))), .second, .val (.int (1 : Int32)), .val (.int ((1 : Int32) - (1 : Int32))), .val (.int ((0 : Int32) + (1 : Int32))), .val (.int c0)] [(.ref a)]))
  obtain ⟨T21, X21, e21, st21⟩ := getF X19 hx hZ hown (host := "") (Or.inl (hw _ (List.mem_of_getElem? (i := 23) rfl))) Via.refl e19 F_a_strides (g := (mkF m 116 #[.val (.ref a), .val (.ref b), .val (.long ((1 : Int64) * (c0.toInt64))), .second, .val (.int (1 : Int32)), .val (.int ((1 : Int32) - (1 : Int32))), .val (.int ((0 : Int32) + (1 : Int32))), .val (.int c0)] [(.ref a)])) rfl rfl (hb hby dc_116)
  refine own_via st21 ?_
  show own_G _ _ _ _ (T21.setTop (mkF m 119 #[.val (.ref a), .val (.ref b), .val (.long ((1 : Int64) * (c0.toInt64))), .second, .val (.int (1 : Int32)), .val (.int ((1 : Int32) - (1 : Int32))), .val (.int ((0 : Int32) + (1 : Int32))), .val (.int c0)] [(.ref b3)]))
  refine own_via (fun _ k => XS.iload X21.here hx rfl (hb hby dc_119) rfl k) ?_
  show own_G _ _ _ _ (T21.setTop (mkF m 121 #[.val (.ref a), .val (.ref b), .val (.long ((1 : Int64) * (c0.toInt64))), .second, .val (.int (1 : Int32)), .val (.int ((1 : Int32) - (1 : Int32))), .val (.int ((0 : Int32) + (1 : Int32))), .val (.int c0)] [(.int ((1 : Int32) - (1 : Int32))), (.ref b3)]))
  refine own_via (fun _ k => XS.iload X21.here hx rfl (hb hby dc_121) rfl k) ?_
  show own_G _ _ _ _ (T21.setTop (mkF m 123 #[.val (.ref a), .val (.ref b), .val (.long ((1 : Int64) * (c0.toInt64))), .second, .val (.int (1 : Int32)), .val (.int ((1 : Int32) - (1 : Int32))), .val (.int ((0 : Int32) + (1 : Int32))), .val (.int c0)] [(.int (1 : Int32)), (.int ((1 : Int32) - (1 : Int32))), (.ref b3)]))
  obtain ⟨cl_b3, Ar_b3, q_b3, S_b3, Nn_b3, H_b3, G_b3⟩ := V_b3
  have hin22 : ¬ (((1 : Int32) - (1 : Int32)) < 0 ∨ cl_b3.slots.size ≤ (((1 : Int32) - (1 : Int32))).toNatClampNeg) := inb_of S_b3 ⟨by decide, by decide⟩
  obtain ⟨T22, h22, X22, e22, W22, st22⟩ := stI X21 hx hZ e21 Ar_b3 (j := ((1 : Int32) - (1 : Int32))) hin22 (g := (mkF m 123 #[.val (.ref a), .val (.ref b), .val (.long ((1 : Int64) * (c0.toInt64))), .second, .val (.int (1 : Int32)), .val (.int ((1 : Int32) - (1 : Int32))), .val (.int ((0 : Int32) + (1 : Int32))), .val (.int c0)] [(.int (1 : Int32)), (.int ((1 : Int32) - (1 : Int32))), (.ref b3)])) rfl rfl (hb hby dc_123)
  have V_b3 : Arv Z h22 b3 k_b3 .int (1 : Int32) ([(.int (1 : Int32))] : List Value) (.int (0 : Int32)) := Arv.set Ar_b3 q_b3 S_b3 Nn_b3 H_b3 G_b3 rfl W22 0 rfl (Nat.le_of_ble_eq_true rfl)
  have E_a := E_a.wr W22
  have F_a_levelCounts := F_a_levelCounts.other W22 (Or.inl ne_a_b3)
  have F_a_strides := F_a_strides.other W22 (Or.inl ne_a_b3)
  have F_a_size := F_a_size.other W22 (Or.inl ne_a_b3)
  have E_b := E_b.wr W22
  have V_b := V_b.other W22 ne_b_b3
  have E_b2 := E_b2.wr W22
  have V_b2 := V_b2.other W22 ne_b2_b3
  have Z0 := Nat.le_trans Z0 (Keep.of_wr W22).1
  have K := K.wr W22 (Or.inr sz_b3)
  have N22 := Fr.snoc X22 N19 g_b3
  refine own_via st22 ?_
  show own_G _ _ _ _ (T22.setTop (mkF m 124 #[.val (.ref a), .val (.ref b), .val (.long ((1 : Int64) * (c0.toInt64))), .second, .val (.int (1 : Int32)), .val (.int ((1 : Int32) - (1 : Int32))), .val (.int ((0 : Int32) + (1 : Int32))), .val (.int c0)] []))
  refine own_via (fun _ k => XS.iload X22.here hx rfl (hb hby dc_124) rfl k) ?_
  show own_G _ _ _ _ (T22.setTop (mkF m 126 #[.val (.ref a), .val (.ref b), .val (.long ((1 : Int64) * (c0.toInt64))), .second, .val (.int (1 : Int32)), .val (.int ((1 : Int32) - (1 : Int32))), .val (.int ((0 : Int32) + (1 : Int32))), .val (.int c0)] [(.int (1 : Int32))]))
  refine own_via (fun _ k => XS.aloadN X22.here hx rfl (hb hby dc_126) rfl rfl k) ?_
  show own_G _ _ _ _ (T22.setTop (mkF m 127 #[.val (.ref a), .val (.ref b), .val (.long ((1 : Int64) * (c0.toInt64))), .second, .val (.int (1 : Int32)), .val (.int ((1 : Int32) - (1 : Int32))), .val (.int ((0 : Int32) + (1 : Int32))), .val (.int c0)] [(.ref b), (.int (1 : Int32))]))
  refine own_via (fun _ k => XS.iload X22.here hx rfl (hb hby dc_127) rfl k) ?_
  show own_G _ _ _ _ (T22.setTop (mkF m 129 #[.val (.ref a), .val (.ref b), .val (.long ((1 : Int64) * (c0.toInt64))), .second, .val (.int (1 : Int32)), .val (.int ((1 : Int32) - (1 : Int32))), .val (.int ((0 : Int32) + (1 : Int32))), .val (.int c0)] [(.int ((1 : Int32) - (1 : Int32))), (.ref b), (.int (1 : Int32))]))
  obtain ⟨cl23, Ar23, -, Sz23, Nn23, Hh23, -⟩ := id V_b
  have hin23 : ¬ (((1 : Int32) - (1 : Int32)) < 0 ∨ cl23.slots.size ≤ (((1 : Int32) - (1 : Int32))).toNatClampNeg) := inb_of Sz23 ⟨by decide, by decide⟩
  have hat23 : cl23.slots[(((1 : Int32) - (1 : Int32))).toNatClampNeg]? = some (.int c0) := Has.at Hh23 hin23 rfl
  refine own_via (fun _ k => X22.iaload hx (j := ((1 : Int32) - (1 : Int32))) (v := (.int c0)) (by rw [e22]; exact Ar23.1) (State.isArrayOf_alike hZ.alike Ar23.2.1) Ar23.2.2 hin23 hat23 (g := (mkF m 129 #[.val (.ref a), .val (.ref b), .val (.long ((1 : Int64) * (c0.toInt64))), .second, .val (.int (1 : Int32)), .val (.int ((1 : Int32) - (1 : Int32))), .val (.int ((0 : Int32) + (1 : Int32))), .val (.int c0)] [(.int ((1 : Int32) - (1 : Int32))), (.ref b), (.int (1 : Int32))])) rfl rfl (hb hby dc_129) _ k) ?_
  show own_G _ _ _ _ (T22.setTop (mkF m 130 #[.val (.ref a), .val (.ref b), .val (.long ((1 : Int64) * (c0.toInt64))), .second, .val (.int (1 : Int32)), .val (.int ((1 : Int32) - (1 : Int32))), .val (.int ((0 : Int32) + (1 : Int32))), .val (.int c0)] [(.int c0), (.int (1 : Int32))]))
  refine own_via (fun _ k => XS.imul X22.here hx rfl (hb hby dc_130) rfl k) ?_
  show own_G _ _ _ _ (T22.setTop (mkF m 131 #[.val (.ref a), .val (.ref b), .val (.long ((1 : Int64) * (c0.toInt64))), .second, .val (.int (1 : Int32)), .val (.int ((1 : Int32) - (1 : Int32))), .val (.int ((0 : Int32) + (1 : Int32))), .val (.int c0)] [(.int ((1 : Int32) * c0))]))
  refine own_via (fun _ k => XS.istore X22.here hx rfl (hb hby dc_131) rfl (l' := #[.val (.ref a), .val (.ref b), .val (.long ((1 : Int64) * (c0.toInt64))), .second, .val (.int ((1 : Int32) * c0)), .val (.int ((1 : Int32) - (1 : Int32))), .val (.int ((0 : Int32) + (1 : Int32))), .val (.int c0)]) rfl k) ?_
  show own_G _ _ _ _ (T22.setTop (mkF m 133 #[.val (.ref a), .val (.ref b), .val (.long ((1 : Int64) * (c0.toInt64))), .second, .val (.int ((1 : Int32) * c0)), .val (.int ((1 : Int32) - (1 : Int32))), .val (.int ((0 : Int32) + (1 : Int32))), .val (.int c0)] []))
  refine own_via (fun _ k => XS.iinc X22.here hx rfl (hb hby dc_133) rfl (l' := #[.val (.ref a), .val (.ref b), .val (.long ((1 : Int64) * (c0.toInt64))), .second, .val (.int ((1 : Int32) * c0)), .val (.int (((1 : Int32) - (1 : Int32)) + (-1 : Int32))), .val (.int ((0 : Int32) + (1 : Int32))), .val (.int c0)]) rfl k) ?_
  show own_G _ _ _ _ (T22.setTop (mkF m 136 #[.val (.ref a), .val (.ref b), .val (.long ((1 : Int64) * (c0.toInt64))), .second, .val (.int ((1 : Int32) * c0)), .val (.int (((1 : Int32) - (1 : Int32)) + (-1 : Int32))), .val (.int ((0 : Int32) + (1 : Int32))), .val (.int c0)] []))
  refine own_via (fun _ k => XS.goto X22.here hx rfl (pc0 := 136) (pc' := 110) rfl (hb hby dc_136) (by decide) (by decide) k) ?_
  show own_G _ _ _ _ (T22.setTop (mkF m 110 #[.val (.ref a), .val (.ref b), .val (.long ((1 : Int64) * (c0.toInt64))), .second, .val (.int ((1 : Int32) * c0)), .val (.int (((1 : Int32) - (1 : Int32)) + (-1 : Int32))), .val (.int ((0 : Int32) + (1 : Int32))), .val (.int c0)] []))
  refine own_via (fun _ k => XS.iload X22.here hx rfl (hb hby dc_110) rfl k) ?_
  show own_G _ _ _ _ (T22.setTop (mkF m 112 #[.val (.ref a), .val (.ref b), .val (.long ((1 : Int64) * (c0.toInt64))), .second, .val (.int ((1 : Int32) * c0)), .val (.int (((1 : Int32) - (1 : Int32)) + (-1 : Int32))), .val (.int ((0 : Int32) + (1 : Int32))), .val (.int c0)] [(.int (((1 : Int32) - (1 : Int32)) + (-1 : Int32)))]))
  refine own_via (fun _ k => XS.ifYes X22.here hx rfl (pc0 := 112) (pc' := 139) rfl (hb hby dc_112) rfl ((if0 _ _).trans (tlt (by decide)).1) (by decide) (by decide) k) ?_
  show own_G _ _ _ _ (T22.setTop (mkF m 139 #[.val (.ref a), .val (.ref b), .val (.long ((1 : Int64) * (c0.toInt64))), .second, .val (.int ((1 : Int32) * c0)), .val (.int (((1 : Int32) - (1 : Int32)) + (-1 : Int32))), .val (.int ((0 : Int32) + (1 : Int32))), .val (.int c0)] []))
  refine own_via (fun _ k => XS.aloadN X22.here hx rfl (hb hby dc_139) rfl rfl k) ?_
  show own_G _ _ _ _ (T22.setTop (mkF m 140 #[.val (.ref a), .val (.ref b), .val (.long ((1 : Int64) * (c0.toInt64))), .second, .val (.int ((1 : Int32) * c0)), .val (.int (((1 : Int32) - (1 : Int32)) + (-1 : Int32))), .val (.int ((0 : Int32) + (1 : Int32))), .val (.int c0)] [(.ref a)]))
  refine own_via (fun _ k => XS.lloadN X22.here hx rfl (hb hby dc_140) rfl k) ?_
  show own_G _ _ _ _ (T22.setTop (mkF m 141 #[.val (.ref a), .val (.ref b), .val (.long ((1 : Int64) * (c0.toInt64))), .second, .val (.int ((1 : Int32) * c0)), .val (.int (((1 : Int32) - (1 : Int32)) + (-1 : Int32))), .val (.int ((0 : Int32) + (1 : Int32))), .val (.int c0)] [(.long ((1 : Int64) * (c0.toInt64))), (.ref a)]))
  refine own_via (fun _ k => XS.l2i X22.here hx rfl (hb hby dc_141) rfl k) ?_
  show own_G _ _ _ _ (T22.setTop (mkF m 142 #[.val (.ref a), .val (.ref b), .val (.long ((1 : Int64) * (c0.toInt64))), .second, .val (.int ((1 : Int32) * c0)), .val (.int (((1 : Int32) - (1 : Int32)) + (-1 : Int32))), .val (.int ((0 : Int32) + (1 : Int32))), .val (.int c0)] [(.int (((1 : Int64) * (c0.toInt64)).toInt32)), (.ref a)]))
  obtain ⟨T24, h24, X24, e24, W24, st24⟩ := putF X22 hx hZ hown (host := "") (Or.inl (hw _ (List.mem_of_getElem? (i := 25) rfl))) Via.refl e22 F_a_size E_a (Or.inr ⟨(hw _ (List.mem_of_getElem? (i := 26) rfl)), rfl, hnm⟩) (hw _ (List.mem_of_getElem? (i := 4) rfl)) (ty := .int) (by decide) rfl rfl (g := (mkF m 142 #[.val (.ref a), .val (.ref b), .val (.long ((1 : Int64) * (c0.toInt64))), .second, .val (.int ((1 : Int32) * c0)), .val (.int (((1 : Int32) - (1 : Int32)) + (-1 : Int32))), .val (.int ((0 : Int32) + (1 : Int32))), .val (.int c0)] [(.int (((1 : Int64) * (c0.toInt64)).toInt32)), (.ref a)])) rfl rfl (hb hby dc_142)
  have F_a_size := F_a_size.same W24
  have F_a_levelCounts := F_a_levelCounts.other W24 (Or.inr (slot_ne (Or.inr (hw _ (List.mem_of_getElem? (i := 22) rfl))) (Or.inr (hw _ (List.mem_of_getElem? (i := 26) rfl))) (by decide) (t := (.array .int)) (t' := .int) (by decide) (by decide)))
  have F_a_strides := F_a_strides.other W24 (Or.inr (slot_ne (Or.inr (hw _ (List.mem_of_getElem? (i := 24) rfl))) (Or.inr (hw _ (List.mem_of_getElem? (i := 26) rfl))) (by decide) (t := (.array .int)) (t' := .int) (by decide) (by decide)))
  have E_a := E_a.wr W24
  have E_b := E_b.wr W24
  have V_b := V_b.other W24 (Ne.symm hab)
  have E_b2 := E_b2.wr W24
  have V_b2 := V_b2.other W24 (Ne.symm ne_a_b2)
  have V_b3 := V_b3.other W24 (Ne.symm ne_a_b3)
  have Z0 := Nat.le_trans Z0 (Keep.of_wr W24).1
  have K := K.wr W24 (Or.inl (by simp))
  have N24 := Fr.snoc X24 N22 g_a
  refine own_via st24 ?_
  show own_G _ _ _ _ (T24.setTop (mkF m 145 #[.val (.ref a), .val (.ref b), .val (.long ((1 : Int64) * (c0.toInt64))), .second, .val (.int ((1 : Int32) * c0)), .val (.int (((1 : Int32) - (1 : Int32)) + (-1 : Int32))), .val (.int ((0 : Int32) + (1 : Int32))), .val (.int c0)] []))
  obtain ⟨fs, hr, hrun, hended, hW, hsame⟩ := X24.leave (v := none) (fun _ => rfl)
  refine ⟨_, _, ?_, hrun, hended, _, _, rfl, ?_, ⟨_, rfl⟩, hW, hsame.mono (by decide) (by decide)⟩
  · exact X24.returnOut hx Bd.returns (hb hby dc_145) hr
  · show Qc1 Z a b kk0 c0 h0 n0 _ T24.heap _
    rw [e24]
    exact ⟨rfl, N24, K, E_a, b2, b3, _, g_b2, g_b3, F_a_levelCounts, V_b2, F_a_strides, V_b3, F_a_size⟩
theorem pn_c2 : plainName "com/example/vanon/vanon/lattice/Lattice" = true := by first | (simp [plainName, overriddenIn]; done) | decide +kernel
theorem ef_c2 (m : MethodId) (a : Addr) (b : Addr) : entryFrame m #[(.ref a), (.ref b)] 8 = (mkF m 0 #[.val (.ref a), .val (.ref b), .unset, .unset, .unset, .unset, .unset, .unset] []) := by first | (simp [entryFrame, mkF, argsToLocals, Value.category]; done) | rfl
def Qc2 (Z : State) (a : Addr) (b : Addr) (kk0 : ClassId) (c0 : Int32) (c1 : Int32) (h0 : Heap) (n0 : Nat) (v : Option Value) (h : Heap) (L : List Loc) : Prop := v = none ∧ Fr n0 L ∧ Keep h0 h [a] ∧ Exa Z h a "com/example/vanon/vanon/lattice/Lattice" ∧ ∃ (b2 b3 : Addr) (k3 : ClassId), n0 ≤ b2 ∧ n0 ≤ b3 ∧ Fld Z h a "com/example/vanon/vanon/lattice/Lattice" "levelCounts" "[I" (.ref b2) ∧ Arv Z h b2 kk0 .int (2 : Int32) ([(.int c0), (.int c1)] : List Value) (.int (0 : Int32)) ∧ Fld Z h a "com/example/vanon/vanon/lattice/Lattice" "strides" "[I" (.ref b3) ∧ Arv Z h b3 k3 .int (2 : Int32) ([(.int ((1 : Int32) * c1)), (.int (1 : Int32))] : List Value) (.int (0 : Int32)) ∧ Fld Z h a "com/example/vanon/vanon/lattice/Lattice" "size" "I" (.int ((((1 : Int64) * (c0.toInt64)) * (c1.toInt64)).toInt32))
set_option maxRecDepth 65536 in
set_option maxHeartbeats 40000000 in
theorem rmc2 (l : Launch) (Z : State) (a0 : Array Value) (hw : ∀ d ∈ tables_1, d.before a0 Z = true) (ws : List Jvm.Cond) (a : Addr) (b : Addr) (kk0 : ClassId) (c0 : Int32) (c1 : Int32) (h0 : Heap) (n0 : Nat) (Z0 : n0 ≤ h0.size) (E_a : Exa Z h0 a "com/example/vanon/vanon/lattice/Lattice") (F_a_levelCounts : Fld Z h0 a "com/example/vanon/vanon/lattice/Lattice" "levelCounts" "[I" .null) (F_a_strides : Fld Z h0 a "com/example/vanon/vanon/lattice/Lattice" "strides" "[I" .null) (F_a_size : Fld Z h0 a "com/example/vanon/vanon/lattice/Lattice" "size" "I" (.int 0)) (E_b : Exa Z h0 b "[I") (V_b : Arv Z h0 b kk0 .int (2 : Int32) ([(.int c0), (.int c1)] : List Value) (.int (0 : Int32))) (g_a : n0 ≤ a) (hab : a ≠ b) (hp0 : 1 ≤ c0.toInt) (hq0 : ¬ (2147483639 : Int64) < ((1 : Int64) * (c0.toInt64))) (hp1 : 1 ≤ c1.toInt) (hq1 : ¬ (2147483639 : Int64) < (((1 : Int64) * (c0.toInt64)) * (c1.toInt64))) :
    MetFree l (⟨"com/example/vanon/vanon/lattice/Lattice", "<init>", "([I)V"⟩ : MethodName) (head1 (Jvm.Cond.code (⟨"com/example/vanon/vanon/lattice/Lattice", "<init>", "([I)V"⟩ : MethodName) prog_16_method_1_code 8 none :: ws) ({ frames := 1, cells := 2, slots := 4, locals := 40 } : Room)) (fun as' U => as' = #[(.ref a), (.ref b)] ∧ Z.Warmed39 U.vm ∧ U.heap = h0) (fun _ _ _ _ _ => True) (fun _ U o U' => ∃ v L, o = .returned v ∧ Qc2 Z a b kk0 c0 c1 h0 n0 v U'.heap L ∧ FrameEnd U o U' L ({ frames := 1, cells := 2, slots := 4, locals := 40 } : Room).cells ({ frames := 1, cells := 2, slots := 4, locals := 40 } : Room).slots) := by
  refine MetFree.of_bodySF (plainFor_of_name pn_c2) hisR ?_
  intro p e s m args below meth c s₁ Bd hml0 hP hK
  obtain ⟨rfl, hZ, hh⟩ := hP
  have hx := Bd.exec
  have hby := Bd.bytes
  have hml : c.maxLocals = 8 := hml0
  have hown : s.vm.findClass "com/example/vanon/vanon/lattice/Lattice" = some m.cls := findClass_of_methodNamed Bd.named
  have hnm := (name_of_methodNamed Bd.named Bd.method).1
  have X0 : Stand p l e ({ frames := 1, cells := 2, slots := 4, locals := 40 } : Room) s m #[(.ref a), (.ref b)] below meth c s₁ [] 0 0 := Stand.of_body Bd
  have e0 : s₁.heap = h0 := by rw [← hh, Bd.state]; rfl
  have N0 := Fr.nil n0
  have K : Keep h0 h0 [a] := Keep.refl _ _
  refine own_via (fun t k => castTop (ef_c2 m a b) k) ?_
  show own_G _ _ _ _ (s₁.setTop (mkF m 0 #[.val (.ref a), .val (.ref b), .unset, .unset, .unset, .unset, .unset, .unset] []))
  refine own_via (fun _ k => XS.aloadN X0.here hx rfl (hb hby dc_0) rfl rfl k) ?_
  show own_G _ _ _ _ (s₁.setTop (mkF m 1 #[.val (.ref a), .val (.ref b), .unset, .unset, .unset, .unset, .unset, .unset] [(.ref a)]))
  obtain ⟨T25, X25, e25, st25⟩ := initO X0 hx hZ hown (hw _ (List.mem_of_getElem? (i := 9) rfl)) (hw _ (List.mem_of_getElem? (i := 10) rfl)) (hw _ (List.mem_of_getElem? (i := 11) rfl)) e0 (g := (mkF m 1 #[.val (.ref a), .val (.ref b), .unset, .unset, .unset, .unset, .unset, .unset] [(.ref a)])) rfl (by rw [hml]; rfl) rfl (hb hby dc_1) (by decide) (W := 0) (by show 2 * 0 + _ ≤ _; exact Nat.le_of_eq rfl) (by decide)
  refine own_via st25 ?_
  show own_G _ _ _ _ (T25.setTop (mkF m 4 #[.val (.ref a), .val (.ref b), .unset, .unset, .unset, .unset, .unset, .unset] []))
  refine own_via (fun _ k => XS.lconst X25.here hx rfl (hb hby dc_4) k) ?_
  show own_G _ _ _ _ (T25.setTop (mkF m 5 #[.val (.ref a), .val (.ref b), .unset, .unset, .unset, .unset, .unset, .unset] [(.long (1 : Int64))]))
  refine own_via (fun _ k => XS.lstoreN X25.here hx rfl (hb hby dc_5) rfl (l' := #[.val (.ref a), .val (.ref b), .val (.long (1 : Int64)), .second, .unset, .unset, .unset, .unset]) rfl k) ?_
  show own_G _ _ _ _ (T25.setTop (mkF m 6 #[.val (.ref a), .val (.ref b), .val (.long (1 : Int64)), .second, .unset, .unset, .unset, .unset] []))
  refine own_via (fun _ k => XS.aloadN X25.here hx rfl (hb hby dc_6) rfl rfl k) ?_
  show own_G _ _ _ _ (T25.setTop (mkF m 7 #[.val (.ref a), .val (.ref b), .val (.long (1 : Int64)), .second, .unset, .unset, .unset, .unset] [(.ref b)]))
  refine own_via (fun _ k => XS.astore X25.here hx rfl (hb hby dc_7) rfl rfl (l' := #[.val (.ref a), .val (.ref b), .val (.long (1 : Int64)), .second, .val (.ref b), .unset, .unset, .unset]) rfl k) ?_
  show own_G _ _ _ _ (T25.setTop (mkF m 9 #[.val (.ref a), .val (.ref b), .val (.long (1 : Int64)), .second, .val (.ref b), .unset, .unset, .unset] []))
  refine own_via (fun _ k => XS.aload X25.here hx rfl (hb hby dc_9) rfl rfl k) ?_
  show own_G _ _ _ _ (T25.setTop (mkF m 11 #[.val (.ref a), .val (.ref b), .val (.long (1 : Int64)), .second, .val (.ref b), .unset, .unset, .unset] [(.ref b)]))
  obtain ⟨cl26, Ar26, -, Sz26, Nn26, -, -⟩ := id V_b
  refine own_via (fun _ k => X25.arraylength hx (by rw [e25]; exact Ar26.1) (State.isArrayOf_alike hZ.alike Ar26.2.1) (g := (mkF m 11 #[.val (.ref a), .val (.ref b), .val (.long (1 : Int64)), .second, .val (.ref b), .unset, .unset, .unset] [(.ref b)])) rfl rfl (hb hby dc_11) _ k) ?_
  rw [len_of Sz26 Nn26]
  show own_G _ _ _ _ (T25.setTop (mkF m 12 #[.val (.ref a), .val (.ref b), .val (.long (1 : Int64)), .second, .val (.ref b), .unset, .unset, .unset] [(.int (2 : Int32))]))
  refine own_via (fun _ k => XS.istore X25.here hx rfl (hb hby dc_12) rfl (l' := #[.val (.ref a), .val (.ref b), .val (.long (1 : Int64)), .second, .val (.ref b), .val (.int (2 : Int32)), .unset, .unset]) rfl k) ?_
  show own_G _ _ _ _ (T25.setTop (mkF m 14 #[.val (.ref a), .val (.ref b), .val (.long (1 : Int64)), .second, .val (.ref b), .val (.int (2 : Int32)), .unset, .unset] []))
  refine own_via (fun _ k => XS.iconst X25.here hx rfl (hb hby dc_14) k) ?_
  show own_G _ _ _ _ (T25.setTop (mkF m 15 #[.val (.ref a), .val (.ref b), .val (.long (1 : Int64)), .second, .val (.ref b), .val (.int (2 : Int32)), .unset, .unset] [(.int (0 : Int32))]))
  refine own_via (fun _ k => XS.istore X25.here hx rfl (hb hby dc_15) rfl (l' := #[.val (.ref a), .val (.ref b), .val (.long (1 : Int64)), .second, .val (.ref b), .val (.int (2 : Int32)), .val (.int (0 : Int32)), .unset]) rfl k) ?_
  show own_G _ _ _ _ (T25.setTop (mkF m 17 #[.val (.ref a), .val (.ref b), .val (.long (1 : Int64)), .second, .val (.ref b), .val (.int (2 : Int32)), .val (.int (0 : Int32)), .unset] []))
  refine own_via (fun _ k => XS.iload X25.here hx rfl (hb hby dc_17) rfl k) ?_
  show own_G _ _ _ _ (T25.setTop (mkF m 19 #[.val (.ref a), .val (.ref b), .val (.long (1 : Int64)), .second, .val (.ref b), .val (.int (2 : Int32)), .val (.int (0 : Int32)), .unset] [(.int (0 : Int32))]))
  refine own_via (fun _ k => XS.iload X25.here hx rfl (hb hby dc_19) rfl k) ?_
  show own_G _ _ _ _ (T25.setTop (mkF m 21 #[.val (.ref a), .val (.ref b), .val (.long (1 : Int64)), .second, .val (.ref b), .val (.int (2 : Int32)), .val (.int (0 : Int32)), .unset] [(.int (2 : Int32)), (.int (0 : Int32))]))
  refine own_via (fun _ k => XS.icmpNo X25.here hx rfl (hb hby dc_21) rfl (tlt (by decide)).2.1 k) ?_
  show own_G _ _ _ _ (T25.setTop (mkF m 24 #[.val (.ref a), .val (.ref b), .val (.long (1 : Int64)), .second, .val (.ref b), .val (.int (2 : Int32)), .val (.int (0 : Int32)), .unset] []))
  refine own_via (fun _ k => XS.aload X25.here hx rfl (hb hby dc_24) rfl rfl k) ?_
  show own_G _ _ _ _ (T25.setTop (mkF m 26 #[.val (.ref a), .val (.ref b), .val (.long (1 : Int64)), .second, .val (.ref b), .val (.int (2 : Int32)), .val (.int (0 : Int32)), .unset] [(.ref b)]))
  refine own_via (fun _ k => XS.iload X25.here hx rfl (hb hby dc_26) rfl k) ?_
  show own_G _ _ _ _ (T25.setTop (mkF m 28 #[.val (.ref a), .val (.ref b), .val (.long (1 : Int64)), .second, .val (.ref b), .val (.int (2 : Int32)), .val (.int (0 : Int32)), .unset] [(.int (0 : Int32)), (.ref b)]))
  obtain ⟨cl27, Ar27, -, Sz27, Nn27, Hh27, -⟩ := id V_b
  have hin27 : ¬ ((0 : Int32) < 0 ∨ cl27.slots.size ≤ ((0 : Int32)).toNatClampNeg) := inb_of Sz27 ⟨by decide, by decide⟩
  have hat27 : cl27.slots[((0 : Int32)).toNatClampNeg]? = some (.int c0) := Has.at Hh27 hin27 rfl
  refine own_via (fun _ k => X25.iaload hx (j := (0 : Int32)) (v := (.int c0)) (by rw [e25]; exact Ar27.1) (State.isArrayOf_alike hZ.alike Ar27.2.1) Ar27.2.2 hin27 hat27 (g := (mkF m 28 #[.val (.ref a), .val (.ref b), .val (.long (1 : Int64)), .second, .val (.ref b), .val (.int (2 : Int32)), .val (.int (0 : Int32)), .unset] [(.int (0 : Int32)), (.ref b)])) rfl rfl (hb hby dc_28) _ k) ?_
  show own_G _ _ _ _ (T25.setTop (mkF m 29 #[.val (.ref a), .val (.ref b), .val (.long (1 : Int64)), .second, .val (.ref b), .val (.int (2 : Int32)), .val (.int (0 : Int32)), .unset] [(.int c0)]))
  refine own_via (fun _ k => XS.istore X25.here hx rfl (hb hby dc_29) rfl (l' := #[.val (.ref a), .val (.ref b), .val (.long (1 : Int64)), .second, .val (.ref b), .val (.int (2 : Int32)), .val (.int (0 : Int32)), .val (.int c0)]) rfl k) ?_
  show own_G _ _ _ _ (T25.setTop (mkF m 31 #[.val (.ref a), .val (.ref b), .val (.long (1 : Int64)), .second, .val (.ref b), .val (.int (2 : Int32)), .val (.int (0 : Int32)), .val (.int c0)] []))
  refine own_via (fun _ k => XS.iload X25.here hx rfl (hb hby dc_31) rfl k) ?_
  show own_G _ _ _ _ (T25.setTop (mkF m 33 #[.val (.ref a), .val (.ref b), .val (.long (1 : Int64)), .second, .val (.ref b), .val (.int (2 : Int32)), .val (.int (0 : Int32)), .val (.int c0)] [(.int c0)]))
  refine own_via (fun _ k => XS.iconst X25.here hx rfl (hb hby dc_33) k) ?_
  show own_G _ _ _ _ (T25.setTop (mkF m 34 #[.val (.ref a), .val (.ref b), .val (.long (1 : Int64)), .second, .val (.ref b), .val (.int (2 : Int32)), .val (.int (0 : Int32)), .val (.int c0)] [(.int (1 : Int32)), (.int c0)]))
  refine own_via (fun _ k => XS.icmpYes X25.here hx rfl (pc0 := 34) (pc' := 52) rfl (hb hby dc_34) rfl (flt (own_ge1 hp0)).2.1 (by decide) (by decide) k) ?_
  show own_G _ _ _ _ (T25.setTop (mkF m 52 #[.val (.ref a), .val (.ref b), .val (.long (1 : Int64)), .second, .val (.ref b), .val (.int (2 : Int32)), .val (.int (0 : Int32)), .val (.int c0)] []))
  refine own_via (fun _ k => XS.lloadN X25.here hx rfl (hb hby dc_52) rfl k) ?_
  show own_G _ _ _ _ (T25.setTop (mkF m 53 #[.val (.ref a), .val (.ref b), .val (.long (1 : Int64)), .second, .val (.ref b), .val (.int (2 : Int32)), .val (.int (0 : Int32)), .val (.int c0)] [(.long (1 : Int64))]))
  refine own_via (fun _ k => XS.iload X25.here hx rfl (hb hby dc_53) rfl k) ?_
  show own_G _ _ _ _ (T25.setTop (mkF m 55 #[.val (.ref a), .val (.ref b), .val (.long (1 : Int64)), .second, .val (.ref b), .val (.int (2 : Int32)), .val (.int (0 : Int32)), .val (.int c0)] [(.int c0), (.long (1 : Int64))]))
  refine own_via (fun _ k => XS.i2l X25.here hx rfl (hb hby dc_55) rfl k) ?_
  show own_G _ _ _ _ (T25.setTop (mkF m 56 #[.val (.ref a), .val (.ref b), .val (.long (1 : Int64)), .second, .val (.ref b), .val (.int (2 : Int32)), .val (.int (0 : Int32)), .val (.int c0)] [(.long (c0.toInt64)), (.long (1 : Int64))]))
  refine own_via (fun _ k => XS.lmul X25.here hx rfl (hb hby dc_56) rfl k) ?_
  show own_G _ _ _ _ (T25.setTop (mkF m 57 #[.val (.ref a), .val (.ref b), .val (.long (1 : Int64)), .second, .val (.ref b), .val (.int (2 : Int32)), .val (.int (0 : Int32)), .val (.int c0)] [(.long ((1 : Int64) * (c0.toInt64)))]))
  refine own_via (fun _ k => XS.lstoreN X25.here hx rfl (hb hby dc_57) rfl (l' := #[.val (.ref a), .val (.ref b), .val (.long ((1 : Int64) * (c0.toInt64))), .second, .val (.ref b), .val (.int (2 : Int32)), .val (.int (0 : Int32)), .val (.int c0)]) rfl k) ?_
  show own_G _ _ _ _ (T25.setTop (mkF m 58 #[.val (.ref a), .val (.ref b), .val (.long ((1 : Int64) * (c0.toInt64))), .second, .val (.ref b), .val (.int (2 : Int32)), .val (.int (0 : Int32)), .val (.int c0)] []))
  refine own_via (fun _ k => XS.lloadN X25.here hx rfl (hb hby dc_58) rfl k) ?_
  show own_G _ _ _ _ (T25.setTop (mkF m 59 #[.val (.ref a), .val (.ref b), .val (.long ((1 : Int64) * (c0.toInt64))), .second, .val (.ref b), .val (.int (2 : Int32)), .val (.int (0 : Int32)), .val (.int c0)] [(.long ((1 : Int64) * (c0.toInt64)))]))
  refine own_via (fun _ k => X25.ldc2Long hx hown (mvT hZ (hw _ (List.mem_of_getElem? (i := 32) rfl))) (g := (mkF m 59 #[.val (.ref a), .val (.ref b), .val (.long ((1 : Int64) * (c0.toInt64))), .second, .val (.ref b), .val (.int (2 : Int32)), .val (.int (0 : Int32)), .val (.int c0)] [(.long ((1 : Int64) * (c0.toInt64)))])) rfl (hb hby dc_59) _ k) ?_
  show own_G _ _ _ _ (T25.setTop (mkF m 62 #[.val (.ref a), .val (.ref b), .val (.long ((1 : Int64) * (c0.toInt64))), .second, .val (.ref b), .val (.int (2 : Int32)), .val (.int (0 : Int32)), .val (.int c0)] [(.long (2147483639 : Int64)), (.long ((1 : Int64) * (c0.toInt64)))]))
  refine own_via (fun _ k => XS.lcmp X25.here hx rfl (hb hby dc_62) rfl k) ?_
  show own_G _ _ _ _ (T25.setTop (mkF m 63 #[.val (.ref a), .val (.ref b), .val (.long ((1 : Int64) * (c0.toInt64))), .second, .val (.ref b), .val (.int (2 : Int32)), .val (.int (0 : Int32)), .val (.int c0)] [(.int (lcmpW ((1 : Int64) * (c0.toInt64)) (2147483639 : Int64)))]))
  refine own_via (fun _ k => XS.ifYes X25.here hx rfl (pc0 := 63) (pc' := 76) rfl (hb hby dc_63) rfl ((if0 _ _).trans (flt (fun z => hq0 ((lw_gt _ _).mp z))).2.2.2) (by decide) (by decide) k) ?_
  show own_G _ _ _ _ (T25.setTop (mkF m 76 #[.val (.ref a), .val (.ref b), .val (.long ((1 : Int64) * (c0.toInt64))), .second, .val (.ref b), .val (.int (2 : Int32)), .val (.int (0 : Int32)), .val (.int c0)] []))
  refine own_via (fun _ k => XS.iinc X25.here hx rfl (hb hby dc_76) rfl (l' := #[.val (.ref a), .val (.ref b), .val (.long ((1 : Int64) * (c0.toInt64))), .second, .val (.ref b), .val (.int (2 : Int32)), .val (.int ((0 : Int32) + (1 : Int32))), .val (.int c0)]) rfl k) ?_
  show own_G _ _ _ _ (T25.setTop (mkF m 79 #[.val (.ref a), .val (.ref b), .val (.long ((1 : Int64) * (c0.toInt64))), .second, .val (.ref b), .val (.int (2 : Int32)), .val (.int ((0 : Int32) + (1 : Int32))), .val (.int c0)] []))
  refine own_via (fun _ k => XS.goto X25.here hx rfl (pc0 := 79) (pc' := 17) rfl (hb hby dc_79) (by decide) (by decide) k) ?_
  show own_G _ _ _ _ (T25.setTop (mkF m 17 #[.val (.ref a), .val (.ref b), .val (.long ((1 : Int64) * (c0.toInt64))), .second, .val (.ref b), .val (.int (2 : Int32)), .val (.int ((0 : Int32) + (1 : Int32))), .val (.int c0)] []))
  refine own_via (fun _ k => XS.iload X25.here hx rfl (hb hby dc_17) rfl k) ?_
  show own_G _ _ _ _ (T25.setTop (mkF m 19 #[.val (.ref a), .val (.ref b), .val (.long ((1 : Int64) * (c0.toInt64))), .second, .val (.ref b), .val (.int (2 : Int32)), .val (.int ((0 : Int32) + (1 : Int32))), .val (.int c0)] [(.int ((0 : Int32) + (1 : Int32)))]))
  refine own_via (fun _ k => XS.iload X25.here hx rfl (hb hby dc_19) rfl k) ?_
  show own_G _ _ _ _ (T25.setTop (mkF m 21 #[.val (.ref a), .val (.ref b), .val (.long ((1 : Int64) * (c0.toInt64))), .second, .val (.ref b), .val (.int (2 : Int32)), .val (.int ((0 : Int32) + (1 : Int32))), .val (.int c0)] [(.int (2 : Int32)), (.int ((0 : Int32) + (1 : Int32)))]))
  refine own_via (fun _ k => XS.icmpNo X25.here hx rfl (hb hby dc_21) rfl (tlt (by decide)).2.1 k) ?_
  show own_G _ _ _ _ (T25.setTop (mkF m 24 #[.val (.ref a), .val (.ref b), .val (.long ((1 : Int64) * (c0.toInt64))), .second, .val (.ref b), .val (.int (2 : Int32)), .val (.int ((0 : Int32) + (1 : Int32))), .val (.int c0)] []))
  refine own_via (fun _ k => XS.aload X25.here hx rfl (hb hby dc_24) rfl rfl k) ?_
  show own_G _ _ _ _ (T25.setTop (mkF m 26 #[.val (.ref a), .val (.ref b), .val (.long ((1 : Int64) * (c0.toInt64))), .second, .val (.ref b), .val (.int (2 : Int32)), .val (.int ((0 : Int32) + (1 : Int32))), .val (.int c0)] [(.ref b)]))
  refine own_via (fun _ k => XS.iload X25.here hx rfl (hb hby dc_26) rfl k) ?_
  show own_G _ _ _ _ (T25.setTop (mkF m 28 #[.val (.ref a), .val (.ref b), .val (.long ((1 : Int64) * (c0.toInt64))), .second, .val (.ref b), .val (.int (2 : Int32)), .val (.int ((0 : Int32) + (1 : Int32))), .val (.int c0)] [(.int ((0 : Int32) + (1 : Int32))), (.ref b)]))
  obtain ⟨cl28, Ar28, -, Sz28, Nn28, Hh28, -⟩ := id V_b
  have hin28 : ¬ (((0 : Int32) + (1 : Int32)) < 0 ∨ cl28.slots.size ≤ (((0 : Int32) + (1 : Int32))).toNatClampNeg) := inb_of Sz28 ⟨by decide, by decide⟩
  have hat28 : cl28.slots[(((0 : Int32) + (1 : Int32))).toNatClampNeg]? = some (.int c1) := Has.at Hh28 hin28 rfl
  refine own_via (fun _ k => X25.iaload hx (j := ((0 : Int32) + (1 : Int32))) (v := (.int c1)) (by rw [e25]; exact Ar28.1) (State.isArrayOf_alike hZ.alike Ar28.2.1) Ar28.2.2 hin28 hat28 (g := (mkF m 28 #[.val (.ref a), .val (.ref b), .val (.long ((1 : Int64) * (c0.toInt64))), .second, .val (.ref b), .val (.int (2 : Int32)), .val (.int ((0 : Int32) + (1 : Int32))), .val (.int c0)] [(.int ((0 : Int32) + (1 : Int32))), (.ref b)])) rfl rfl (hb hby dc_28) _ k) ?_
  show own_G _ _ _ _ (T25.setTop (mkF m 29 #[.val (.ref a), .val (.ref b), .val (.long ((1 : Int64) * (c0.toInt64))), .second, .val (.ref b), .val (.int (2 : Int32)), .val (.int ((0 : Int32) + (1 : Int32))), .val (.int c0)] [(.int c1)]))
  refine own_via (fun _ k => XS.istore X25.here hx rfl (hb hby dc_29) rfl (l' := #[.val (.ref a), .val (.ref b), .val (.long ((1 : Int64) * (c0.toInt64))), .second, .val (.ref b), .val (.int (2 : Int32)), .val (.int ((0 : Int32) + (1 : Int32))), .val (.int c1)]) rfl k) ?_
  show own_G _ _ _ _ (T25.setTop (mkF m 31 #[.val (.ref a), .val (.ref b), .val (.long ((1 : Int64) * (c0.toInt64))), .second, .val (.ref b), .val (.int (2 : Int32)), .val (.int ((0 : Int32) + (1 : Int32))), .val (.int c1)] []))
  refine own_via (fun _ k => XS.iload X25.here hx rfl (hb hby dc_31) rfl k) ?_
  show own_G _ _ _ _ (T25.setTop (mkF m 33 #[.val (.ref a), .val (.ref b), .val (.long ((1 : Int64) * (c0.toInt64))), .second, .val (.ref b), .val (.int (2 : Int32)), .val (.int ((0 : Int32) + (1 : Int32))), .val (.int c1)] [(.int c1)]))
  refine own_via (fun _ k => XS.iconst X25.here hx rfl (hb hby dc_33) k) ?_
  show own_G _ _ _ _ (T25.setTop (mkF m 34 #[.val (.ref a), .val (.ref b), .val (.long ((1 : Int64) * (c0.toInt64))), .second, .val (.ref b), .val (.int (2 : Int32)), .val (.int ((0 : Int32) + (1 : Int32))), .val (.int c1)] [(.int (1 : Int32)), (.int c1)]))
  refine own_via (fun _ k => XS.icmpYes X25.here hx rfl (pc0 := 34) (pc' := 52) rfl (hb hby dc_34) rfl (flt (own_ge1 hp1)).2.1 (by decide) (by decide) k) ?_
  show own_G _ _ _ _ (T25.setTop (mkF m 52 #[.val (.ref a), .val (.ref b), .val (.long ((1 : Int64) * (c0.toInt64))), .second, .val (.ref b), .val (.int (2 : Int32)), .val (.int ((0 : Int32) + (1 : Int32))), .val (.int c1)] []))
  refine own_via (fun _ k => XS.lloadN X25.here hx rfl (hb hby dc_52) rfl k) ?_
  show own_G _ _ _ _ (T25.setTop (mkF m 53 #[.val (.ref a), .val (.ref b), .val (.long ((1 : Int64) * (c0.toInt64))), .second, .val (.ref b), .val (.int (2 : Int32)), .val (.int ((0 : Int32) + (1 : Int32))), .val (.int c1)] [(.long ((1 : Int64) * (c0.toInt64)))]))
  refine own_via (fun _ k => XS.iload X25.here hx rfl (hb hby dc_53) rfl k) ?_
  show own_G _ _ _ _ (T25.setTop (mkF m 55 #[.val (.ref a), .val (.ref b), .val (.long ((1 : Int64) * (c0.toInt64))), .second, .val (.ref b), .val (.int (2 : Int32)), .val (.int ((0 : Int32) + (1 : Int32))), .val (.int c1)] [(.int c1), (.long ((1 : Int64) * (c0.toInt64)))]))
  refine own_via (fun _ k => XS.i2l X25.here hx rfl (hb hby dc_55) rfl k) ?_
  show own_G _ _ _ _ (T25.setTop (mkF m 56 #[.val (.ref a), .val (.ref b), .val (.long ((1 : Int64) * (c0.toInt64))), .second, .val (.ref b), .val (.int (2 : Int32)), .val (.int ((0 : Int32) + (1 : Int32))), .val (.int c1)] [(.long (c1.toInt64)), (.long ((1 : Int64) * (c0.toInt64)))]))
  refine own_via (fun _ k => XS.lmul X25.here hx rfl (hb hby dc_56) rfl k) ?_
  show own_G _ _ _ _ (T25.setTop (mkF m 57 #[.val (.ref a), .val (.ref b), .val (.long ((1 : Int64) * (c0.toInt64))), .second, .val (.ref b), .val (.int (2 : Int32)), .val (.int ((0 : Int32) + (1 : Int32))), .val (.int c1)] [(.long (((1 : Int64) * (c0.toInt64)) * (c1.toInt64)))]))
  refine own_via (fun _ k => XS.lstoreN X25.here hx rfl (hb hby dc_57) rfl (l' := #[.val (.ref a), .val (.ref b), .val (.long (((1 : Int64) * (c0.toInt64)) * (c1.toInt64))), .second, .val (.ref b), .val (.int (2 : Int32)), .val (.int ((0 : Int32) + (1 : Int32))), .val (.int c1)]) rfl k) ?_
  show own_G _ _ _ _ (T25.setTop (mkF m 58 #[.val (.ref a), .val (.ref b), .val (.long (((1 : Int64) * (c0.toInt64)) * (c1.toInt64))), .second, .val (.ref b), .val (.int (2 : Int32)), .val (.int ((0 : Int32) + (1 : Int32))), .val (.int c1)] []))
  refine own_via (fun _ k => XS.lloadN X25.here hx rfl (hb hby dc_58) rfl k) ?_
  show own_G _ _ _ _ (T25.setTop (mkF m 59 #[.val (.ref a), .val (.ref b), .val (.long (((1 : Int64) * (c0.toInt64)) * (c1.toInt64))), .second, .val (.ref b), .val (.int (2 : Int32)), .val (.int ((0 : Int32) + (1 : Int32))), .val (.int c1)] [(.long (((1 : Int64) * (c0.toInt64)) * (c1.toInt64)))]))
  refine own_via (fun _ k => X25.ldc2Long hx hown (mvT hZ (hw _ (List.mem_of_getElem? (i := 32) rfl))) (g := (mkF m 59 #[.val (.ref a), .val (.ref b), .val (.long (((1 : Int64) * (c0.toInt64)) * (c1.toInt64))), .second, .val (.ref b), .val (.int (2 : Int32)), .val (.int ((0 : Int32) + (1 : Int32))), .val (.int c1)] [(.long (((1 : Int64) * (c0.toInt64)) * (c1.toInt64)))])) rfl (hb hby dc_59) _ k) ?_
  show own_G _ _ _ _ (T25.setTop (mkF m 62 #[.val (.ref a), .val (.ref b), .val (.long (((1 : Int64) * (c0.toInt64)) * (c1.toInt64))), .second, .val (.ref b), .val (.int (2 : Int32)), .val (.int ((0 : Int32) + (1 : Int32))), .val (.int c1)] [(.long (2147483639 : Int64)), (.long (((1 : Int64) * (c0.toInt64)) * (c1.toInt64)))]))
  refine own_via (fun _ k => XS.lcmp X25.here hx rfl (hb hby dc_62) rfl k) ?_
  show own_G _ _ _ _ (T25.setTop (mkF m 63 #[.val (.ref a), .val (.ref b), .val (.long (((1 : Int64) * (c0.toInt64)) * (c1.toInt64))), .second, .val (.ref b), .val (.int (2 : Int32)), .val (.int ((0 : Int32) + (1 : Int32))), .val (.int c1)] [(.int (lcmpW (((1 : Int64) * (c0.toInt64)) * (c1.toInt64)) (2147483639 : Int64)))]))
  refine own_via (fun _ k => XS.ifYes X25.here hx rfl (pc0 := 63) (pc' := 76) rfl (hb hby dc_63) rfl ((if0 _ _).trans (flt (fun z => hq1 ((lw_gt _ _).mp z))).2.2.2) (by decide) (by decide) k) ?_
  show own_G _ _ _ _ (T25.setTop (mkF m 76 #[.val (.ref a), .val (.ref b), .val (.long (((1 : Int64) * (c0.toInt64)) * (c1.toInt64))), .second, .val (.ref b), .val (.int (2 : Int32)), .val (.int ((0 : Int32) + (1 : Int32))), .val (.int c1)] []))
  refine own_via (fun _ k => XS.iinc X25.here hx rfl (hb hby dc_76) rfl (l' := #[.val (.ref a), .val (.ref b), .val (.long (((1 : Int64) * (c0.toInt64)) * (c1.toInt64))), .second, .val (.ref b), .val (.int (2 : Int32)), .val (.int (((0 : Int32) + (1 : Int32)) + (1 : Int32))), .val (.int c1)]) rfl k) ?_
  show own_G _ _ _ _ (T25.setTop (mkF m 79 #[.val (.ref a), .val (.ref b), .val (.long (((1 : Int64) * (c0.toInt64)) * (c1.toInt64))), .second, .val (.ref b), .val (.int (2 : Int32)), .val (.int (((0 : Int32) + (1 : Int32)) + (1 : Int32))), .val (.int c1)] []))
  refine own_via (fun _ k => XS.goto X25.here hx rfl (pc0 := 79) (pc' := 17) rfl (hb hby dc_79) (by decide) (by decide) k) ?_
  show own_G _ _ _ _ (T25.setTop (mkF m 17 #[.val (.ref a), .val (.ref b), .val (.long (((1 : Int64) * (c0.toInt64)) * (c1.toInt64))), .second, .val (.ref b), .val (.int (2 : Int32)), .val (.int (((0 : Int32) + (1 : Int32)) + (1 : Int32))), .val (.int c1)] []))
  refine own_via (fun _ k => XS.iload X25.here hx rfl (hb hby dc_17) rfl k) ?_
  show own_G _ _ _ _ (T25.setTop (mkF m 19 #[.val (.ref a), .val (.ref b), .val (.long (((1 : Int64) * (c0.toInt64)) * (c1.toInt64))), .second, .val (.ref b), .val (.int (2 : Int32)), .val (.int (((0 : Int32) + (1 : Int32)) + (1 : Int32))), .val (.int c1)] [(.int (((0 : Int32) + (1 : Int32)) + (1 : Int32)))]))
  refine own_via (fun _ k => XS.iload X25.here hx rfl (hb hby dc_19) rfl k) ?_
  show own_G _ _ _ _ (T25.setTop (mkF m 21 #[.val (.ref a), .val (.ref b), .val (.long (((1 : Int64) * (c0.toInt64)) * (c1.toInt64))), .second, .val (.ref b), .val (.int (2 : Int32)), .val (.int (((0 : Int32) + (1 : Int32)) + (1 : Int32))), .val (.int c1)] [(.int (2 : Int32)), (.int (((0 : Int32) + (1 : Int32)) + (1 : Int32)))]))
  refine own_via (fun _ k => XS.icmpYes X25.here hx rfl (pc0 := 21) (pc' := 82) rfl (hb hby dc_21) rfl (flt (by decide)).2.1 (by decide) (by decide) k) ?_
  show own_G _ _ _ _ (T25.setTop (mkF m 82 #[.val (.ref a), .val (.ref b), .val (.long (((1 : Int64) * (c0.toInt64)) * (c1.toInt64))), .second, .val (.ref b), .val (.int (2 : Int32)), .val (.int (((0 : Int32) + (1 : Int32)) + (1 : Int32))), .val (.int c1)] []))
  refine own_via (fun _ k => XS.aloadN X25.here hx rfl (hb hby dc_82) rfl rfl k) ?_
  show own_G _ _ _ _ (T25.setTop (mkF m 83 #[.val (.ref a), .val (.ref b), .val (.long (((1 : Int64) * (c0.toInt64)) * (c1.toInt64))), .second, .val (.ref b), .val (.int (2 : Int32)), .val (.int (((0 : Int32) + (1 : Int32)) + (1 : Int32))), .val (.int c1)] [(.ref a)]))
  refine own_via (fun _ k => XS.aloadN X25.here hx rfl (hb hby dc_83) rfl rfl k) ?_
  show own_G _ _ _ _ (T25.setTop (mkF m 84 #[.val (.ref a), .val (.ref b), .val (.long (((1 : Int64) * (c0.toInt64)) * (c1.toInt64))), .second, .val (.ref b), .val (.int (2 : Int32)), .val (.int (((0 : Int32) + (1 : Int32)) + (1 : Int32))), .val (.int c1)] [(.ref b), (.ref a)]))
  obtain ⟨T29, h29, X29, e29, E29, V29, EA29, st29⟩ := cloneH X25 hx hZ hown (hw _ (List.mem_of_getElem? (i := 12) rfl)) (hw _ (List.mem_of_getElem? (i := 13) rfl)) (hw _ (List.mem_of_getElem? (i := 17) rfl)) (hw _ (List.mem_of_getElem? (i := 15) rfl)) (hw _ (List.mem_of_getElem? (i := 16) rfl)) (hw _ (List.mem_of_getElem? (i := 18) rfl)) e25 V_b.arh E_b (g := (mkF m 84 #[.val (.ref a), .val (.ref b), .val (.long (((1 : Int64) * (c0.toInt64)) * (c1.toInt64))), .second, .val (.ref b), .val (.int (2 : Int32)), .val (.int (((0 : Int32) + (1 : Int32)) + (1 : Int32))), .val (.int c1)] [(.ref b), (.ref a)])) rfl (by rw [hml]; rfl) rfl (hb hby dc_84) (by decide) (W := 1) (cap := 2) (by show 2 * 0 + _ ≤ _; exact Nat.le_of_eq rfl) (by decide) (by decide) (by decide) (by decide)
  obtain ⟨b2, g29⟩ : ∃ z, z = h0.size := ⟨_, rfl⟩
  rw [← g29] at V29 EA29 st29
  have g_b2 : n0 ≤ b2 := Nat.le_trans Z0 (Nat.le_of_eq g29.symm)
  have sz_b2 : h0.size ≤ b2 := Nat.le_trans K.1 (Nat.le_of_eq g29.symm)
  have ne_a_b2 : a ≠ b2 := Nat.ne_of_lt (Nat.lt_of_lt_of_le E_a.lt (Nat.le_of_eq g29.symm))
  have ne_b_b2 : b ≠ b2 := Nat.ne_of_lt (Nat.lt_of_lt_of_le E_b.lt (Nat.le_of_eq g29.symm))
  have E_a := E_a.ext E29
  have F_a_levelCounts := F_a_levelCounts.ext E29
  have F_a_strides := F_a_strides.ext E29
  have F_a_size := F_a_size.ext E29
  have E_b := E_b.ext E29
  have V_b := V_b.ext E29
  have Z0 := Nat.le_trans Z0 E29.1
  have K := K.ext E29
  have E_b2 := EA29
  have V_b2 : Arv Z h29 b2 kk0 .int (2 : Int32) ([(.int c0), (.int c1)] : List Value) (.int (0 : Int32)) := V29
  refine own_via st29 ?_
  show own_G _ _ _ _ (T29.setTop (mkF m 87 #[.val (.ref a), .val (.ref b), .val (.long (((1 : Int64) * (c0.toInt64)) * (c1.toInt64))), .second, .val (.ref b), .val (.int (2 : Int32)), .val (.int (((0 : Int32) + (1 : Int32)) + (1 : Int32))), .val (.int c1)] [(.ref b2), (.ref a)]))
  obtain ⟨T30, X30, e30, st30⟩ := castY X29 hx hZ hown (hw _ (List.mem_of_getElem? (i := 19) rfl)) e29 (Ins.self E_b2) (g := (mkF m 87 #[.val (.ref a), .val (.ref b), .val (.long (((1 : Int64) * (c0.toInt64)) * (c1.toInt64))), .second, .val (.ref b), .val (.int (2 : Int32)), .val (.int (((0 : Int32) + (1 : Int32)) + (1 : Int32))), .val (.int c1)] [(.ref b2), (.ref a)])) rfl rfl (hb hby dc_87)
  refine own_via st30 ?_
  show own_G _ _ _ _ (T30.setTop (mkF m 90 #[.val (.ref a), .val (.ref b), .val (.long (((1 : Int64) * (c0.toInt64)) * (c1.toInt64))), .second, .val (.ref b), .val (.int (2 : Int32)), .val (.int (((0 : Int32) + (1 : Int32)) + (1 : Int32))), .val (.int c1)] [(.ref b2), (.ref a)]))
  obtain ⟨T31, h31, X31, e31, W31, st31⟩ := putF X30 hx hZ hown (host := "") (Or.inl (hw _ (List.mem_of_getElem? (i := 21) rfl))) Via.refl e30 F_a_levelCounts E_a (Or.inr ⟨(hw _ (List.mem_of_getElem? (i := 22) rfl)), rfl, hnm⟩) (hw _ (List.mem_of_getElem? (i := 4) rfl)) (ty := (.array .int)) (by decide) rfl rfl (g := (mkF m 90 #[.val (.ref a), .val (.ref b), .val (.long (((1 : Int64) * (c0.toInt64)) * (c1.toInt64))), .second, .val (.ref b), .val (.int (2 : Int32)), .val (.int (((0 : Int32) + (1 : Int32)) + (1 : Int32))), .val (.int c1)] [(.ref b2), (.ref a)])) rfl rfl (hb hby dc_90)
  have F_a_levelCounts := F_a_levelCounts.same W31
  have F_a_strides := F_a_strides.other W31 (Or.inr (slot_ne (Or.inr (hw _ (List.mem_of_getElem? (i := 24) rfl))) (Or.inr (hw _ (List.mem_of_getElem? (i := 22) rfl))) (by decide) (t := (.array .int)) (t' := (.array .int)) (by decide) (by decide)))
  have F_a_size := F_a_size.other W31 (Or.inr (slot_ne (Or.inr (hw _ (List.mem_of_getElem? (i := 26) rfl))) (Or.inr (hw _ (List.mem_of_getElem? (i := 22) rfl))) (by decide) (t := .int) (t' := (.array .int)) (by decide) (by decide)))
  have E_a := E_a.wr W31
  have E_b := E_b.wr W31
  have V_b := V_b.other W31 (Ne.symm hab)
  have E_b2 := E_b2.wr W31
  have V_b2 := V_b2.other W31 (Ne.symm ne_a_b2)
  have Z0 := Nat.le_trans Z0 (Keep.of_wr W31).1
  have K := K.wr W31 (Or.inl (by simp))
  have N31 := Fr.snoc X31 N0 g_a
  refine own_via st31 ?_
  show own_G _ _ _ _ (T31.setTop (mkF m 93 #[.val (.ref a), .val (.ref b), .val (.long (((1 : Int64) * (c0.toInt64)) * (c1.toInt64))), .second, .val (.ref b), .val (.int (2 : Int32)), .val (.int (((0 : Int32) + (1 : Int32)) + (1 : Int32))), .val (.int c1)] []))
  refine own_via (fun _ k => XS.aloadN X31.here hx rfl (hb hby dc_93) rfl rfl k) ?_
  show own_G _ _ _ _ (T31.setTop (mkF m 94 #[.val (.ref a), .val (.ref b), .val (.long (((1 : Int64) * (c0.toInt64)) * (c1.toInt64))), .second, .val (.ref b), .val (.int (2 : Int32)), .val (.int (((0 : Int32) + (1 : Int32)) + (1 : Int32))), .val (.int c1)] [(.ref a)]))
  refine own_via (fun _ k => XS.aloadN X31.here hx rfl (hb hby dc_94) rfl rfl k) ?_
  show own_G _ _ _ _ (T31.setTop (mkF m 95 #[.val (.ref a), .val (.ref b), .val (.long (((1 : Int64) * (c0.toInt64)) * (c1.toInt64))), .second, .val (.ref b), .val (.int (2 : Int32)), .val (.int (((0 : Int32) + (1 : Int32)) + (1 : Int32))), .val (.int c1)] [(.ref b), (.ref a)]))
  obtain ⟨cl32, Ar32, -, Sz32, Nn32, -, -⟩ := id V_b
  refine own_via (fun _ k => X31.arraylength hx (by rw [e31]; exact Ar32.1) (State.isArrayOf_alike hZ.alike Ar32.2.1) (g := (mkF m 95 #[.val (.ref a), .val (.ref b), .val (.long (((1 : Int64) * (c0.toInt64)) * (c1.toInt64))), .second, .val (.ref b), .val (.int (2 : Int32)), .val (.int (((0 : Int32) + (1 : Int32)) + (1 : Int32))), .val (.int c1)] [(.ref b), (.ref a)])) rfl rfl (hb hby dc_95) _ k) ?_
  rw [len_of Sz32 Nn32]
  show own_G _ _ _ _ (T31.setTop (mkF m 96 #[.val (.ref a), .val (.ref b), .val (.long (((1 : Int64) * (c0.toInt64)) * (c1.toInt64))), .second, .val (.ref b), .val (.int (2 : Int32)), .val (.int (((0 : Int32) + (1 : Int32)) + (1 : Int32))), .val (.int c1)] [(.int (2 : Int32)), (.ref a)]))
  obtain ⟨T33, h33, k_b3, X33, e33, E33, A33, st33⟩ := newP X31 hx hZ (hw _ (List.mem_of_getElem? (i := 2) rfl)) e31 (g := (mkF m 96 #[.val (.ref a), .val (.ref b), .val (.long (((1 : Int64) * (c0.toInt64)) * (c1.toInt64))), .second, .val (.ref b), .val (.int (2 : Int32)), .val (.int (((0 : Int32) + (1 : Int32)) + (1 : Int32))), .val (.int c1)] [(.int (2 : Int32)), (.ref a)])) rfl (hb hby dc_96) rfl (by decide) (cap := 2) (by decide) (by decide) (by decide) (by decide)
  obtain ⟨b3, g33⟩ : ∃ z, z = h31.size := ⟨_, rfl⟩
  rw [← g33] at A33 st33
  have g_b3 : n0 ≤ b3 := Nat.le_trans Z0 (Nat.le_of_eq g33.symm)
  have sz_b3 : h0.size ≤ b3 := Nat.le_trans K.1 (Nat.le_of_eq g33.symm)
  have ne_a_b3 : a ≠ b3 := Nat.ne_of_lt (Nat.lt_of_lt_of_le E_a.lt (Nat.le_of_eq g33.symm))
  have ne_b_b3 : b ≠ b3 := Nat.ne_of_lt (Nat.lt_of_lt_of_le E_b.lt (Nat.le_of_eq g33.symm))
  have ne_b2_b3 : b2 ≠ b3 := Nat.ne_of_lt (Nat.lt_of_lt_of_le E_b2.lt (Nat.le_of_eq g33.symm))
  have E_a := E_a.ext E33
  have F_a_levelCounts := F_a_levelCounts.ext E33
  have F_a_strides := F_a_strides.ext E33
  have F_a_size := F_a_size.ext E33
  have E_b := E_b.ext E33
  have V_b := V_b.ext E33
  have E_b2 := E_b2.ext E33
  have V_b2 := V_b2.ext E33
  have Z0 := Nat.le_trans Z0 E33.1
  have K := K.ext E33
  have V_b3 : Arv Z h33 b3 k_b3 .int (2 : Int32) [(.int (0 : Int32)), (.int (0 : Int32))] (.int (0 : Int32)) := (Arv.new A33 (by decide)).pad (pad_rep [] (.int (0 : Int32)) 2)
  refine own_via st33 ?_
  show own_G _ _ _ _ (T33.setTop (mkF m 98 #[.val (.ref a), .val (.ref b), .val (.long (((1 : Int64) * (c0.toInt64)) * (c1.toInt64))), .second, .val (.ref b), .val (.int (2 : Int32)), .val (.int (((0 : Int32) + (1 : Int32)) + (1 : Int32))), .val (.int c1)] [(.ref b3), (.ref a)]))
  obtain ⟨T34, h34, X34, e34, W34, st34⟩ := putF X33 hx hZ hown (host := "") (Or.inl (hw _ (List.mem_of_getElem? (i := 23) rfl))) Via.refl e33 F_a_strides E_a (Or.inr ⟨(hw _ (List.mem_of_getElem? (i := 24) rfl)), rfl, hnm⟩) (hw _ (List.mem_of_getElem? (i := 4) rfl)) (ty := (.array .int)) (by decide) rfl rfl (g := (mkF m 98 #[.val (.ref a), .val (.ref b), .val (.long (((1 : Int64) * (c0.toInt64)) * (c1.toInt64))), .second, .val (.ref b), .val (.int (2 : Int32)), .val (.int (((0 : Int32) + (1 : Int32)) + (1 : Int32))), .val (.int c1)] [(.ref b3), (.ref a)])) rfl rfl (hb hby dc_98)
  have F_a_strides := F_a_strides.same W34
  have F_a_levelCounts := F_a_levelCounts.other W34 (Or.inr (slot_ne (Or.inr (hw _ (List.mem_of_getElem? (i := 22) rfl))) (Or.inr (hw _ (List.mem_of_getElem? (i := 24) rfl))) (by decide) (t := (.array .int)) (t' := (.array .int)) (by decide) (by decide)))
  have F_a_size := F_a_size.other W34 (Or.inr (slot_ne (Or.inr (hw _ (List.mem_of_getElem? (i := 26) rfl))) (Or.inr (hw _ (List.mem_of_getElem? (i := 24) rfl))) (by decide) (t := .int) (t' := (.array .int)) (by decide) (by decide)))
  have E_a := E_a.wr W34
  have E_b := E_b.wr W34
  have V_b := V_b.other W34 (Ne.symm hab)
  have E_b2 := E_b2.wr W34
  have V_b2 := V_b2.other W34 (Ne.symm ne_a_b2)
  have V_b3 := V_b3.other W34 (Ne.symm ne_a_b3)
  have Z0 := Nat.le_trans Z0 (Keep.of_wr W34).1
  have K := K.wr W34 (Or.inl (by simp))
  have N34 := Fr.snoc X34 N31 g_a
  refine own_via st34 ?_
  show own_G _ _ _ _ (T34.setTop (mkF m 101 #[.val (.ref a), .val (.ref b), .val (.long (((1 : Int64) * (c0.toInt64)) * (c1.toInt64))), .second, .val (.ref b), .val (.int (2 : Int32)), .val (.int (((0 : Int32) + (1 : Int32)) + (1 : Int32))), .val (.int c1)] []))
  refine own_via (fun _ k => XS.iconst X34.here hx rfl (hb hby dc_101) k) ?_
  show own_G _ _ _ _ (T34.setTop (mkF m 102 #[.val (.ref a), .val (.ref b), .val (.long (((1 : Int64) * (c0.toInt64)) * (c1.toInt64))), .second, .val (.ref b), .val (.int (2 : Int32)), .val (.int (((0 : Int32) + (1 : Int32)) + (1 : Int32))), .val (.int c1)] [(.int (1 : Int32))]))
  refine own_via (fun _ k => XS.istore X34.here hx rfl (hb hby dc_102) rfl (l' := #[.val (.ref a), .val (.ref b), .val (.long (((1 : Int64) * (c0.toInt64)) * (c1.toInt64))), .second, .val (.int (1 : Int32)), .val (.int (2 : Int32)), .val (.int (((0 : Int32) + (1 : Int32)) + (1 : Int32))), .val (.int c1)]) rfl k) ?_
  show own_G _ _ _ _ (T34.setTop (mkF m 104 #[.val (.ref a), .val (.ref b), .val (.long (((1 : Int64) * (c0.toInt64)) * (c1.toInt64))), .second, .val (.int (1 : Int32)), .val (.int (2 : Int32)), .val (.int (((0 : Int32) + (1 : Int32)) + (1 : Int32))), .val (.int c1)] []))
  refine own_via (fun _ k => XS.aloadN X34.here hx rfl (hb hby dc_104) rfl rfl k) ?_
  show own_G _ _ _ _ (T34.setTop (mkF m 105 #[.val (.ref a), .val (.ref b), .val (.long (((1 : Int64) * (c0.toInt64)) * (c1.toInt64))), .second, .val (.int (1 : Int32)), .val (.int (2 : Int32)), .val (.int (((0 : Int32) + (1 : Int32)) + (1 : Int32))), .val (.int c1)] [(.ref b)]))
  obtain ⟨cl35, Ar35, -, Sz35, Nn35, -, -⟩ := id V_b
  refine own_via (fun _ k => X34.arraylength hx (by rw [e34]; exact Ar35.1) (State.isArrayOf_alike hZ.alike Ar35.2.1) (g := (mkF m 105 #[.val (.ref a), .val (.ref b), .val (.long (((1 : Int64) * (c0.toInt64)) * (c1.toInt64))), .second, .val (.int (1 : Int32)), .val (.int (2 : Int32)), .val (.int (((0 : Int32) + (1 : Int32)) + (1 : Int32))), .val (.int c1)] [(.ref b)])) rfl rfl (hb hby dc_105) _ k) ?_
  rw [len_of Sz35 Nn35]
  show own_G _ _ _ _ (T34.setTop (mkF m 106 #[.val (.ref a), .val (.ref b), .val (.long (((1 : Int64) * (c0.toInt64)) * (c1.toInt64))), .second, .val (.int (1 : Int32)), .val (.int (2 : Int32)), .val (.int (((0 : Int32) + (1 : Int32)) + (1 : Int32))), .val (.int c1)] [(.int (2 : Int32))]))
  refine own_via (fun _ k => XS.iconst X34.here hx rfl (hb hby dc_106) k) ?_
  show own_G _ _ _ _ (T34.setTop (mkF m 107 #[.val (.ref a), .val (.ref b), .val (.long (((1 : Int64) * (c0.toInt64)) * (c1.toInt64))), .second, .val (.int (1 : Int32)), .val (.int (2 : Int32)), .val (.int (((0 : Int32) + (1 : Int32)) + (1 : Int32))), .val (.int c1)] [(.int (1 : Int32)), (.int (2 : Int32))]))
  refine own_via (fun _ k => XS.isub X34.here hx rfl (hb hby dc_107) rfl k) ?_
  show own_G _ _ _ _ (T34.setTop (mkF m 108 #[.val (.ref a), .val (.ref b), .val (.long (((1 : Int64) * (c0.toInt64)) * (c1.toInt64))), .second, .val (.int (1 : Int32)), .val (.int (2 : Int32)), .val (.int (((0 : Int32) + (1 : Int32)) + (1 : Int32))), .val (.int c1)] [(.int ((2 : Int32) - (1 : Int32)))]))
  refine own_via (fun _ k => XS.istore X34.here hx rfl (hb hby dc_108) rfl (l' := #[.val (.ref a), .val (.ref b), .val (.long (((1 : Int64) * (c0.toInt64)) * (c1.toInt64))), .second, .val (.int (1 : Int32)), .val (.int ((2 : Int32) - (1 : Int32))), .val (.int (((0 : Int32) + (1 : Int32)) + (1 : Int32))), .val (.int c1)]) rfl k) ?_
  show own_G _ _ _ _ (T34.setTop (mkF m 110 #[.val (.ref a), .val (.ref b), .val (.long (((1 : Int64) * (c0.toInt64)) * (c1.toInt64))), .second, .val (.int (1 : Int32)), .val (.int ((2 : Int32) - (1 : Int32))), .val (.int (((0 : Int32) + (1 : Int32)) + (1 : Int32))), .val (.int c1)] []))
  refine own_via (fun _ k => XS.iload X34.here hx rfl (hb hby dc_110) rfl k) ?_
  show own_G _ _ _ _ (T34.setTop (mkF m 112 #[.val (.ref a), .val (.ref b), .val (.long (((1 : Int64) * (c0.toInt64)) * (c1.toInt64))), .second, .val (.int (1 : Int32)), .val (.int ((2 : Int32) - (1 : Int32))), .val (.int (((0 : Int32) + (1 : Int32)) + (1 : Int32))), .val (.int c1)] [(.int ((2 : Int32) - (1 : Int32)))]))
  refine own_via (fun _ k => XS.ifNo X34.here hx rfl (hb hby dc_112) rfl ((if0 _ _).trans (flt (by decide)).1) k) ?_
  show own_G _ _ _ _ (T34.setTop (mkF m 115 #[.val (.ref a), .val (.ref b), .val (.long (((1 : Int64) * (c0.toInt64)) * (c1.toInt64))), .second, .val (.int (1 : Int32)), .val (.int ((2 : Int32) - (1 : Int32))), .val (.int (((0 : Int32) + (1 : Int32)) + (1 : Int32))), .val (.int c1)] []))
  refine own_via (fun _ k => XS.aloadN X34.here hx rfl (hb hby dc_115) rfl rfl k) ?_
  show own_G _ _ _ _ (T34.setTop (mkF m 116 #[.val (.ref a), .val (.ref b), .val (.long (((1 : Int64) * (c0.toInt64)) * (c1.toInt64))), .second, .val (.int (1 : Int32)), .val (.int ((2 : Int32) - (1 : Int32))), .val (.int (((0 : Int32) + (1 : Int32)) + (1 : Int32))), .val (.int c1)] [(.ref a)]))
  obtain ⟨T36, X36, e36, st36⟩ := getF X34 hx hZ hown (host := "") (Or.inl (hw _ (List.mem_of_getElem? (i := 23) rfl))) Via.refl e34 F_a_strides (g := (mkF m 116 #[.val (.ref a), .val (.ref b), .val (.long (((1 : Int64) * (c0.toInt64)) * (c1.toInt64))), .second, .val (.int (1 : Int32)), .val (.int ((2 : Int32) - (1 : Int32))), .val (.int (((0 : Int32) + (1 : Int32)) + (1 : Int32))), .val (.int c1)] [(.ref a)])) rfl rfl (hb hby dc_116)
  refine own_via st36 ?_
  show own_G _ _ _ _ (T36.setTop (mkF m 119 #[.val (.ref a), .val (.ref b), .val (.long (((1 : Int64) * (c0.toInt64)) * (c1.toInt64))), .second, .val (.int (1 : Int32)), .val (.int ((2 : Int32) - (1 : Int32))), .val (.int (((0 : Int32) + (1 : Int32)) + (1 : Int32))), .val (.int c1)] [(.ref b3)]))
  refine own_via (fun _ k => XS.iload X36.here hx rfl (hb hby dc_119) rfl k) ?_
  show own_G _ _ _ _ (T36.setTop (mkF m 121 #[.val (.ref a), .val (.ref b), .val (.long (((1 : Int64) * (c0.toInt64)) * (c1.toInt64))), .second, .val (.int (1 : Int32)), .val (.int ((2 : Int32) - (1 : Int32))), .val (.int (((0 : Int32) + (1 : Int32)) + (1 : Int32))), .val (.int c1)] [(.int ((2 : Int32) - (1 : Int32))), (.ref b3)]))
  refine own_via (fun _ k => XS.iload X36.here hx rfl (hb hby dc_121) rfl k) ?_
  show own_G _ _ _ _ (T36.setTop (mkF m 123 #[.val (.ref a), .val (.ref b), .val (.long (((1 : Int64) * (c0.toInt64)) * (c1.toInt64))), .second, .val (.int (1 : Int32)), .val (.int ((2 : Int32) - (1 : Int32))), .val (.int (((0 : Int32) + (1 : Int32)) + (1 : Int32))), .val (.int c1)] [(.int (1 : Int32)), (.int ((2 : Int32) - (1 : Int32))), (.ref b3)]))
  obtain ⟨cl_b3, Ar_b3, q_b3, S_b3, Nn_b3, H_b3, G_b3⟩ := V_b3
  have hin37 : ¬ (((2 : Int32) - (1 : Int32)) < 0 ∨ cl_b3.slots.size ≤ (((2 : Int32) - (1 : Int32))).toNatClampNeg) := inb_of S_b3 ⟨by decide, by decide⟩
  obtain ⟨T37, h37, X37, e37, W37, st37⟩ := stI X36 hx hZ e36 Ar_b3 (j := ((2 : Int32) - (1 : Int32))) hin37 (g := (mkF m 123 #[.val (.ref a), .val (.ref b), .val (.long (((1 : Int64) * (c0.toInt64)) * (c1.toInt64))), .second, .val (.int (1 : Int32)), .val (.int ((2 : Int32) - (1 : Int32))), .val (.int (((0 : Int32) + (1 : Int32)) + (1 : Int32))), .val (.int c1)] [(.int (1 : Int32)), (.int ((2 : Int32) - (1 : Int32))), (.ref b3)])) rfl rfl (hb hby dc_123)
  have V_b3 : Arv Z h37 b3 k_b3 .int (2 : Int32) ([(.int (0 : Int32)), (.int (1 : Int32))] : List Value) (.int (0 : Int32)) := Arv.set Ar_b3 q_b3 S_b3 Nn_b3 H_b3 G_b3 rfl W37 1 rfl (Nat.le_of_ble_eq_true rfl)
  have E_a := E_a.wr W37
  have F_a_levelCounts := F_a_levelCounts.other W37 (Or.inl ne_a_b3)
  have F_a_strides := F_a_strides.other W37 (Or.inl ne_a_b3)
  have F_a_size := F_a_size.other W37 (Or.inl ne_a_b3)
  have E_b := E_b.wr W37
  have V_b := V_b.other W37 ne_b_b3
  have E_b2 := E_b2.wr W37
  have V_b2 := V_b2.other W37 ne_b2_b3
  have Z0 := Nat.le_trans Z0 (Keep.of_wr W37).1
  have K := K.wr W37 (Or.inr sz_b3)
  have N37 := Fr.snoc X37 N34 g_b3
  refine own_via st37 ?_
  show own_G _ _ _ _ (T37.setTop (mkF m 124 #[.val (.ref a), .val (.ref b), .val (.long (((1 : Int64) * (c0.toInt64)) * (c1.toInt64))), .second, .val (.int (1 : Int32)), .val (.int ((2 : Int32) - (1 : Int32))), .val (.int (((0 : Int32) + (1 : Int32)) + (1 : Int32))), .val (.int c1)] []))
  refine own_via (fun _ k => XS.iload X37.here hx rfl (hb hby dc_124) rfl k) ?_
  show own_G _ _ _ _ (T37.setTop (mkF m 126 #[.val (.ref a), .val (.ref b), .val (.long (((1 : Int64) * (c0.toInt64)) * (c1.toInt64))), .second, .val (.int (1 : Int32)), .val (.int ((2 : Int32) - (1 : Int32))), .val (.int (((0 : Int32) + (1 : Int32)) + (1 : Int32))), .val (.int c1)] [(.int (1 : Int32))]))
  refine own_via (fun _ k => XS.aloadN X37.here hx rfl (hb hby dc_126) rfl rfl k) ?_
  show own_G _ _ _ _ (T37.setTop (mkF m 127 #[.val (.ref a), .val (.ref b), .val (.long (((1 : Int64) * (c0.toInt64)) * (c1.toInt64))), .second, .val (.int (1 : Int32)), .val (.int ((2 : Int32) - (1 : Int32))), .val (.int (((0 : Int32) + (1 : Int32)) + (1 : Int32))), .val (.int c1)] [(.ref b), (.int (1 : Int32))]))
  refine own_via (fun _ k => XS.iload X37.here hx rfl (hb hby dc_127) rfl k) ?_
  show own_G _ _ _ _ (T37.setTop (mkF m 129 #[.val (.ref a), .val (.ref b), .val (.long (((1 : Int64) * (c0.toInt64)) * (c1.toInt64))), .second, .val (.int (1 : Int32)), .val (.int ((2 : Int32) - (1 : Int32))), .val (.int (((0 : Int32) + (1 : Int32)) + (1 : Int32))), .val (.int c1)] [(.int ((2 : Int32) - (1 : Int32))), (.ref b), (.int (1 : Int32))]))
  obtain ⟨cl38, Ar38, -, Sz38, Nn38, Hh38, -⟩ := id V_b
  have hin38 : ¬ (((2 : Int32) - (1 : Int32)) < 0 ∨ cl38.slots.size ≤ (((2 : Int32) - (1 : Int32))).toNatClampNeg) := inb_of Sz38 ⟨by decide, by decide⟩
  have hat38 : cl38.slots[(((2 : Int32) - (1 : Int32))).toNatClampNeg]? = some (.int c1) := Has.at Hh38 hin38 rfl
  refine own_via (fun _ k => X37.iaload hx (j := ((2 : Int32) - (1 : Int32))) (v := (.int c1)) (by rw [e37]; exact Ar38.1) (State.isArrayOf_alike hZ.alike Ar38.2.1) Ar38.2.2 hin38 hat38 (g := (mkF m 129 #[.val (.ref a), .val (.ref b), .val (.long (((1 : Int64) * (c0.toInt64)) * (c1.toInt64))), .second, .val (.int (1 : Int32)), .val (.int ((2 : Int32) - (1 : Int32))), .val (.int (((0 : Int32) + (1 : Int32)) + (1 : Int32))), .val (.int c1)] [(.int ((2 : Int32) - (1 : Int32))), (.ref b), (.int (1 : Int32))])) rfl rfl (hb hby dc_129) _ k) ?_
  show own_G _ _ _ _ (T37.setTop (mkF m 130 #[.val (.ref a), .val (.ref b), .val (.long (((1 : Int64) * (c0.toInt64)) * (c1.toInt64))), .second, .val (.int (1 : Int32)), .val (.int ((2 : Int32) - (1 : Int32))), .val (.int (((0 : Int32) + (1 : Int32)) + (1 : Int32))), .val (.int c1)] [(.int c1), (.int (1 : Int32))]))
  refine own_via (fun _ k => XS.imul X37.here hx rfl (hb hby dc_130) rfl k) ?_
  show own_G _ _ _ _ (T37.setTop (mkF m 131 #[.val (.ref a), .val (.ref b), .val (.long (((1 : Int64) * (c0.toInt64)) * (c1.toInt64))), .second, .val (.int (1 : Int32)), .val (.int ((2 : Int32) - (1 : Int32))), .val (.int (((0 : Int32) + (1 : Int32)) + (1 : Int32))), .val (.int c1)] [(.int ((1 : Int32) * c1))]))
  refine own_via (fun _ k => XS.istore X37.here hx rfl (hb hby dc_131) rfl (l' := #[.val (.ref a), .val (.ref b), .val (.long (((1 : Int64) * (c0.toInt64)) * (c1.toInt64))), .second, .val (.int ((1 : Int32) * c1)), .val (.int ((2 : Int32) - (1 : Int32))), .val (.int (((0 : Int32) + (1 : Int32)) + (1 : Int32))), .val (.int c1)]) rfl k) ?_
  show own_G _ _ _ _ (T37.setTop (mkF m 133 #[.val (.ref a), .val (.ref b), .val (.long (((1 : Int64) * (c0.toInt64)) * (c1.toInt64))), .second, .val (.int ((1 : Int32) * c1)), .val (.int ((2 : Int32) - (1 : Int32))), .val (.int (((0 : Int32) + (1 : Int32)) + (1 : Int32))), .val (.int c1)] []))
  refine own_via (fun _ k => XS.iinc X37.here hx rfl (hb hby dc_133) rfl (l' := #[.val (.ref a), .val (.ref b), .val (.long (((1 : Int64) * (c0.toInt64)) * (c1.toInt64))), .second, .val (.int ((1 : Int32) * c1)), .val (.int (((2 : Int32) - (1 : Int32)) + (-1 : Int32))), .val (.int (((0 : Int32) + (1 : Int32)) + (1 : Int32))), .val (.int c1)]) rfl k) ?_
  show own_G _ _ _ _ (T37.setTop (mkF m 136 #[.val (.ref a), .val (.ref b), .val (.long (((1 : Int64) * (c0.toInt64)) * (c1.toInt64))), .second, .val (.int ((1 : Int32) * c1)), .val (.int (((2 : Int32) - (1 : Int32)) + (-1 : Int32))), .val (.int (((0 : Int32) + (1 : Int32)) + (1 : Int32))), .val (.int c1)] []))
  refine own_via (fun _ k => XS.goto X37.here hx rfl (pc0 := 136) (pc' := 110) rfl (hb hby dc_136) (by decide) (by decide) k) ?_
  show own_G _ _ _ _ (T37.setTop (mkF m 110 #[.val (.ref a), .val (.ref b), .val (.long (((1 : Int64) * (c0.toInt64)) * (c1.toInt64))), .second, .val (.int ((1 : Int32) * c1)), .val (.int (((2 : Int32) - (1 : Int32)) + (-1 : Int32))), .val (.int (((0 : Int32) + (1 : Int32)) + (1 : Int32))), .val (.int c1)] []))
  refine own_via (fun _ k => XS.iload X37.here hx rfl (hb hby dc_110) rfl k) ?_
  show own_G _ _ _ _ (T37.setTop (mkF m 112 #[.val (.ref a), .val (.ref b), .val (.long (((1 : Int64) * (c0.toInt64)) * (c1.toInt64))), .second, .val (.int ((1 : Int32) * c1)), .val (.int (((2 : Int32) - (1 : Int32)) + (-1 : Int32))), .val (.int (((0 : Int32) + (1 : Int32)) + (1 : Int32))), .val (.int c1)] [(.int (((2 : Int32) - (1 : Int32)) + (-1 : Int32)))]))
  refine own_via (fun _ k => XS.ifNo X37.here hx rfl (hb hby dc_112) rfl ((if0 _ _).trans (flt (by decide)).1) k) ?_
  show own_G _ _ _ _ (T37.setTop (mkF m 115 #[.val (.ref a), .val (.ref b), .val (.long (((1 : Int64) * (c0.toInt64)) * (c1.toInt64))), .second, .val (.int ((1 : Int32) * c1)), .val (.int (((2 : Int32) - (1 : Int32)) + (-1 : Int32))), .val (.int (((0 : Int32) + (1 : Int32)) + (1 : Int32))), .val (.int c1)] []))
  refine own_via (fun _ k => XS.aloadN X37.here hx rfl (hb hby dc_115) rfl rfl k) ?_
  show own_G _ _ _ _ (T37.setTop (mkF m 116 #[.val (.ref a), .val (.ref b), .val (.long (((1 : Int64) * (c0.toInt64)) * (c1.toInt64))), .second, .val (.int ((1 : Int32) * c1)), .val (.int (((2 : Int32) - (1 : Int32)) + (-1 : Int32))), .val (.int (((0 : Int32) + (1 : Int32)) + (1 : Int32))), .val (.int c1)] [(.ref a)]))
  obtain ⟨T39, X39, e39, st39⟩ := getF X37 hx hZ hown (host := "") (Or.inl (hw _ (List.mem_of_getElem? (i := 23) rfl))) Via.refl e37 F_a_strides (g := (mkF m 116 #[.val (.ref a), .val (.ref b), .val (.long (((1 : Int64) * (c0.toInt64)) * (c1.toInt64))), .second, .val (.int ((1 : Int32) * c1)), .val (.int (((2 : Int32) - (1 : Int32)) + (-1 : Int32))), .val (.int (((0 : Int32) + (1 : Int32)) + (1 : Int32))), .val (.int c1)] [(.ref a)])) rfl rfl (hb hby dc_116)
  refine own_via st39 ?_
  show own_G _ _ _ _ (T39.setTop (mkF m 119 #[.val (.ref a), .val (.ref b), .val (.long (((1 : Int64) * (c0.toInt64)) * (c1.toInt64))), .second, .val (.int ((1 : Int32) * c1)), .val (.int (((2 : Int32) - (1 : Int32)) + (-1 : Int32))), .val (.int (((0 : Int32) + (1 : Int32)) + (1 : Int32))), .val (.int c1)] [(.ref b3)]))
  refine own_via (fun _ k => XS.iload X39.here hx rfl (hb hby dc_119) rfl k) ?_
  show own_G _ _ _ _ (T39.setTop (mkF m 121 #[.val (.ref a), .val (.ref b), .val (.long (((1 : Int64) * (c0.toInt64)) * (c1.toInt64))), .second, .val (.int ((1 : Int32) * c1)), .val (.int (((2 : Int32) - (1 : Int32)) + (-1 : Int32))), .val (.int (((0 : Int32) + (1 : Int32)) + (1 : Int32))), .val (.int c1)] [(.int (((2 : Int32) - (1 : Int32)) + (-1 : Int32))), (.ref b3)]))
  refine own_via (fun _ k => XS.iload X39.here hx rfl (hb hby dc_121) rfl k) ?_
  show own_G _ _ _ _ (T39.setTop (mkF m 123 #[.val (.ref a), .val (.ref b), .val (.long (((1 : Int64) * (c0.toInt64)) * (c1.toInt64))), .second, .val (.int ((1 : Int32) * c1)), .val (.int (((2 : Int32) - (1 : Int32)) + (-1 : Int32))), .val (.int (((0 : Int32) + (1 : Int32)) + (1 : Int32))), .val (.int c1)] [(.int ((1 : Int32) * c1)), (.int (((2 : Int32) - (1 : Int32)) + (-1 : Int32))), (.ref b3)]))
  obtain ⟨cl_b3, Ar_b3, q_b3, S_b3, Nn_b3, H_b3, G_b3⟩ := V_b3
  have hin40 : ¬ ((((2 : Int32) - (1 : Int32)) + (-1 : Int32)) < 0 ∨ cl_b3.slots.size ≤ ((((2 : Int32) - (1 : Int32)) + (-1 : Int32))).toNatClampNeg) := inb_of S_b3 ⟨by decide, by decide⟩
  obtain ⟨T40, h40, X40, e40, W40, st40⟩ := stI X39 hx hZ e39 Ar_b3 (j := (((2 : Int32) - (1 : Int32)) + (-1 : Int32))) hin40 (g := (mkF m 123 #[.val (.ref a), .val (.ref b), .val (.long (((1 : Int64) * (c0.toInt64)) * (c1.toInt64))), .second, .val (.int ((1 : Int32) * c1)), .val (.int (((2 : Int32) - (1 : Int32)) + (-1 : Int32))), .val (.int (((0 : Int32) + (1 : Int32)) + (1 : Int32))), .val (.int c1)] [(.int ((1 : Int32) * c1)), (.int (((2 : Int32) - (1 : Int32)) + (-1 : Int32))), (.ref b3)])) rfl rfl (hb hby dc_123)
  have V_b3 : Arv Z h40 b3 k_b3 .int (2 : Int32) ([(.int ((1 : Int32) * c1)), (.int (1 : Int32))] : List Value) (.int (0 : Int32)) := Arv.set Ar_b3 q_b3 S_b3 Nn_b3 H_b3 G_b3 rfl W40 0 rfl (Nat.le_of_ble_eq_true rfl)
  have E_a := E_a.wr W40
  have F_a_levelCounts := F_a_levelCounts.other W40 (Or.inl ne_a_b3)
  have F_a_strides := F_a_strides.other W40 (Or.inl ne_a_b3)
  have F_a_size := F_a_size.other W40 (Or.inl ne_a_b3)
  have E_b := E_b.wr W40
  have V_b := V_b.other W40 ne_b_b3
  have E_b2 := E_b2.wr W40
  have V_b2 := V_b2.other W40 ne_b2_b3
  have Z0 := Nat.le_trans Z0 (Keep.of_wr W40).1
  have K := K.wr W40 (Or.inr sz_b3)
  have N40 := Fr.snoc X40 N37 g_b3
  refine own_via st40 ?_
  show own_G _ _ _ _ (T40.setTop (mkF m 124 #[.val (.ref a), .val (.ref b), .val (.long (((1 : Int64) * (c0.toInt64)) * (c1.toInt64))), .second, .val (.int ((1 : Int32) * c1)), .val (.int (((2 : Int32) - (1 : Int32)) + (-1 : Int32))), .val (.int (((0 : Int32) + (1 : Int32)) + (1 : Int32))), .val (.int c1)] []))
  refine own_via (fun _ k => XS.iload X40.here hx rfl (hb hby dc_124) rfl k) ?_
  show own_G _ _ _ _ (T40.setTop (mkF m 126 #[.val (.ref a), .val (.ref b), .val (.long (((1 : Int64) * (c0.toInt64)) * (c1.toInt64))), .second, .val (.int ((1 : Int32) * c1)), .val (.int (((2 : Int32) - (1 : Int32)) + (-1 : Int32))), .val (.int (((0 : Int32) + (1 : Int32)) + (1 : Int32))), .val (.int c1)] [(.int ((1 : Int32) * c1))]))
  refine own_via (fun _ k => XS.aloadN X40.here hx rfl (hb hby dc_126) rfl rfl k) ?_
  show own_G _ _ _ _ (T40.setTop (mkF m 127 #[.val (.ref a), .val (.ref b), .val (.long (((1 : Int64) * (c0.toInt64)) * (c1.toInt64))), .second, .val (.int ((1 : Int32) * c1)), .val (.int (((2 : Int32) - (1 : Int32)) + (-1 : Int32))), .val (.int (((0 : Int32) + (1 : Int32)) + (1 : Int32))), .val (.int c1)] [(.ref b), (.int ((1 : Int32) * c1))]))
  refine own_via (fun _ k => XS.iload X40.here hx rfl (hb hby dc_127) rfl k) ?_
  show own_G _ _ _ _ (T40.setTop (mkF m 129 #[.val (.ref a), .val (.ref b), .val (.long (((1 : Int64) * (c0.toInt64)) * (c1.toInt64))), .second, .val (.int ((1 : Int32) * c1)), .val (.int (((2 : Int32) - (1 : Int32)) + (-1 : Int32))), .val (.int (((0 : Int32) + (1 : Int32)) + (1 : Int32))), .val (.int c1)] [(.int (((2 : Int32) - (1 : Int32)) + (-1 : Int32))), (.ref b), (.int ((1 : Int32) * c1))]))
  obtain ⟨cl41, Ar41, -, Sz41, Nn41, Hh41, -⟩ := id V_b
  have hin41 : ¬ ((((2 : Int32) - (1 : Int32)) + (-1 : Int32)) < 0 ∨ cl41.slots.size ≤ ((((2 : Int32) - (1 : Int32)) + (-1 : Int32))).toNatClampNeg) := inb_of Sz41 ⟨by decide, by decide⟩
  have hat41 : cl41.slots[((((2 : Int32) - (1 : Int32)) + (-1 : Int32))).toNatClampNeg]? = some (.int c0) := Has.at Hh41 hin41 rfl
  refine own_via (fun _ k => X40.iaload hx (j := (((2 : Int32) - (1 : Int32)) + (-1 : Int32))) (v := (.int c0)) (by rw [e40]; exact Ar41.1) (State.isArrayOf_alike hZ.alike Ar41.2.1) Ar41.2.2 hin41 hat41 (g := (mkF m 129 #[.val (.ref a), .val (.ref b), .val (.long (((1 : Int64) * (c0.toInt64)) * (c1.toInt64))), .second, .val (.int ((1 : Int32) * c1)), .val (.int (((2 : Int32) - (1 : Int32)) + (-1 : Int32))), .val (.int (((0 : Int32) + (1 : Int32)) + (1 : Int32))), .val (.int c1)] [(.int (((2 : Int32) - (1 : Int32)) + (-1 : Int32))), (.ref b), (.int ((1 : Int32) * c1))])) rfl rfl (hb hby dc_129) _ k) ?_
  show own_G _ _ _ _ (T40.setTop (mkF m 130 #[.val (.ref a), .val (.ref b), .val (.long (((1 : Int64) * (c0.toInt64)) * (c1.toInt64))), .second, .val (.int ((1 : Int32) * c1)), .val (.int (((2 : Int32) - (1 : Int32)) + (-1 : Int32))), .val (.int (((0 : Int32) + (1 : Int32)) + (1 : Int32))), .val (.int c1)] [(.int c0), (.int ((1 : Int32) * c1))]))
  refine own_via (fun _ k => XS.imul X40.here hx rfl (hb hby dc_130) rfl k) ?_
  show own_G _ _ _ _ (T40.setTop (mkF m 131 #[.val (.ref a), .val (.ref b), .val (.long (((1 : Int64) * (c0.toInt64)) * (c1.toInt64))), .second, .val (.int ((1 : Int32) * c1)), .val (.int (((2 : Int32) - (1 : Int32)) + (-1 : Int32))), .val (.int (((0 : Int32) + (1 : Int32)) + (1 : Int32))), .val (.int c1)] [(.int (((1 : Int32) * c1) * c0))]))
  refine own_via (fun _ k => XS.istore X40.here hx rfl (hb hby dc_131) rfl (l' := #[.val (.ref a), .val (.ref b), .val (.long (((1 : Int64) * (c0.toInt64)) * (c1.toInt64))), .second, .val (.int (((1 : Int32) * c1) * c0)), .val (.int (((2 : Int32) - (1 : Int32)) + (-1 : Int32))), .val (.int (((0 : Int32) + (1 : Int32)) + (1 : Int32))), .val (.int c1)]) rfl k) ?_
  show own_G _ _ _ _ (T40.setTop (mkF m 133 #[.val (.ref a), .val (.ref b), .val (.long (((1 : Int64) * (c0.toInt64)) * (c1.toInt64))), .second, .val (.int (((1 : Int32) * c1) * c0)), .val (.int (((2 : Int32) - (1 : Int32)) + (-1 : Int32))), .val (.int (((0 : Int32) + (1 : Int32)) + (1 : Int32))), .val (.int c1)] []))
  refine own_via (fun _ k => XS.iinc X40.here hx rfl (hb hby dc_133) rfl (l' := #[.val (.ref a), .val (.ref b), .val (.long (((1 : Int64) * (c0.toInt64)) * (c1.toInt64))), .second, .val (.int (((1 : Int32) * c1) * c0)), .val (.int ((((2 : Int32) - (1 : Int32)) + (-1 : Int32)) + (-1 : Int32))), .val (.int (((0 : Int32) + (1 : Int32)) + (1 : Int32))), .val (.int c1)]) rfl k) ?_
  show own_G _ _ _ _ (T40.setTop (mkF m 136 #[.val (.ref a), .val (.ref b), .val (.long (((1 : Int64) * (c0.toInt64)) * (c1.toInt64))), .second, .val (.int (((1 : Int32) * c1) * c0)), .val (.int ((((2 : Int32) - (1 : Int32)) + (-1 : Int32)) + (-1 : Int32))), .val (.int (((0 : Int32) + (1 : Int32)) + (1 : Int32))), .val (.int c1)] []))
  refine own_via (fun _ k => XS.goto X40.here hx rfl (pc0 := 136) (pc' := 110) rfl (hb hby dc_136) (by decide) (by decide) k) ?_
  show own_G _ _ _ _ (T40.setTop (mkF m 110 #[.val (.ref a), .val (.ref b), .val (.long (((1 : Int64) * (c0.toInt64)) * (c1.toInt64))), .second, .val (.int (((1 : Int32) * c1) * c0)), .val (.int ((((2 : Int32) - (1 : Int32)) + (-1 : Int32)) + (-1 : Int32))), .val (.int (((0 : Int32) + (1 : Int32)) + (1 : Int32))), .val (.int c1)] []))
  refine own_via (fun _ k => XS.iload X40.here hx rfl (hb hby dc_110) rfl k) ?_
  show own_G _ _ _ _ (T40.setTop (mkF m 112 #[.val (.ref a), .val (.ref b), .val (.long (((1 : Int64) * (c0.toInt64)) * (c1.toInt64))), .second, .val (.int (((1 : Int32) * c1) * c0)), .val (.int ((((2 : Int32) - (1 : Int32)) + (-1 : Int32)) + (-1 : Int32))), .val (.int (((0 : Int32) + (1 : Int32)) + (1 : Int32))), .val (.int c1)] [(.int ((((2 : Int32) - (1 : Int32)) + (-1 : Int32)) + (-1 : Int32)))]))
  refine own_via (fun _ k => XS.ifYes X40.here hx rfl (pc0 := 112) (pc' := 139) rfl (hb hby dc_112) rfl ((if0 _ _).trans (tlt (by decide)).1) (by decide) (by decide) k) ?_
  show own_G _ _ _ _ (T40.setTop (mkF m 139 #[.val (.ref a), .val (.ref b), .val (.long (((1 : Int64) * (c0.toInt64)) * (c1.toInt64))), .second, .val (.int (((1 : Int32) * c1) * c0)), .val (.int ((((2 : Int32) - (1 : Int32)) + (-1 : Int32)) + (-1 : Int32))), .val (.int (((0 : Int32) + (1 : Int32)) + (1 : Int32))), .val (.int c1)] []))
  refine own_via (fun _ k => XS.aloadN X40.here hx rfl (hb hby dc_139) rfl rfl k) ?_
  show own_G _ _ _ _ (T40.setTop (mkF m 140 #[.val (.ref a), .val (.ref b), .val (.long (((1 : Int64) * (c0.toInt64)) * (c1.toInt64))), .second, .val (.int (((1 : Int32) * c1) * c0)), .val (.int ((((2 : Int32) - (1 : Int32)) + (-1 : Int32)) + (-1 : Int32))), .val (.int (((0 : Int32) + (1 : Int32)) + (1 : Int32))), .val (.int c1)] [(.ref a)]))
  refine own_via (fun _ k => XS.lloadN X40.here hx rfl (hb hby dc_140) rfl k) ?_
  show own_G _ _ _ _ (T40.setTop (mkF m 141 #[.val (.ref a), .val (.ref b), .val (.long (((1 : Int64) * (c0.toInt64)) * (c1.toInt64))), .second, .val (.int (((1 : Int32) * c1) * c0)), .val (.int ((((2 : Int32) - (1 : Int32)) + (-1 : Int32)) + (-1 : Int32))), .val (.int (((0 : Int32) + (1 : Int32)) + (1 : Int32))), .val (.int c1)] [(.long (((1 : Int64) * (c0.toInt64)) * (c1.toInt64))), (.ref a)]))
  refine own_via (fun _ k => XS.l2i X40.here hx rfl (hb hby dc_141) rfl k) ?_
  show own_G _ _ _ _ (T40.setTop (mkF m 142 #[.val (.ref a), .val (.ref b), .val (.long (((1 : Int64) * (c0.toInt64)) * (c1.toInt64))), .second, .val (.int (((1 : Int32) * c1) * c0)), .val (.int ((((2 : Int32) - (1 : Int32)) + (-1 : Int32)) + (-1 : Int32))), .val (.int (((0 : Int32) + (1 : Int32)) + (1 : Int32))), .val (.int c1)] [(.int ((((1 : Int64) * (c0.toInt64)) * (c1.toInt64)).toInt32)), (.ref a)]))
  obtain ⟨T42, h42, X42, e42, W42, st42⟩ := putF X40 hx hZ hown (host := "") (Or.inl (hw _ (List.mem_of_getElem? (i := 25) rfl))) Via.refl e40 F_a_size E_a (Or.inr ⟨(hw _ (List.mem_of_getElem? (i := 26) rfl)), rfl, hnm⟩) (hw _ (List.mem_of_getElem? (i := 4) rfl)) (ty := .int) (by decide) rfl rfl (g := (mkF m 142 #[.val (.ref a), .val (.ref b), .val (.long (((1 : Int64) * (c0.toInt64)) * (c1.toInt64))), .second, .val (.int (((1 : Int32) * c1) * c0)), .val (.int ((((2 : Int32) - (1 : Int32)) + (-1 : Int32)) + (-1 : Int32))), .val (.int (((0 : Int32) + (1 : Int32)) + (1 : Int32))), .val (.int c1)] [(.int ((((1 : Int64) * (c0.toInt64)) * (c1.toInt64)).toInt32)), (.ref a)])) rfl rfl (hb hby dc_142)
  have F_a_size := F_a_size.same W42
  have F_a_levelCounts := F_a_levelCounts.other W42 (Or.inr (slot_ne (Or.inr (hw _ (List.mem_of_getElem? (i := 22) rfl))) (Or.inr (hw _ (List.mem_of_getElem? (i := 26) rfl))) (by decide) (t := (.array .int)) (t' := .int) (by decide) (by decide)))
  have F_a_strides := F_a_strides.other W42 (Or.inr (slot_ne (Or.inr (hw _ (List.mem_of_getElem? (i := 24) rfl))) (Or.inr (hw _ (List.mem_of_getElem? (i := 26) rfl))) (by decide) (t := (.array .int)) (t' := .int) (by decide) (by decide)))
  have E_a := E_a.wr W42
  have E_b := E_b.wr W42
  have V_b := V_b.other W42 (Ne.symm hab)
  have E_b2 := E_b2.wr W42
  have V_b2 := V_b2.other W42 (Ne.symm ne_a_b2)
  have V_b3 := V_b3.other W42 (Ne.symm ne_a_b3)
  have Z0 := Nat.le_trans Z0 (Keep.of_wr W42).1
  have K := K.wr W42 (Or.inl (by simp))
  have N42 := Fr.snoc X42 N40 g_a
  refine own_via st42 ?_
  show own_G _ _ _ _ (T42.setTop (mkF m 145 #[.val (.ref a), .val (.ref b), .val (.long (((1 : Int64) * (c0.toInt64)) * (c1.toInt64))), .second, .val (.int (((1 : Int32) * c1) * c0)), .val (.int ((((2 : Int32) - (1 : Int32)) + (-1 : Int32)) + (-1 : Int32))), .val (.int (((0 : Int32) + (1 : Int32)) + (1 : Int32))), .val (.int c1)] []))
  obtain ⟨fs, hr, hrun, hended, hW, hsame⟩ := X42.leave (v := none) (fun _ => rfl)
  refine ⟨_, _, ?_, hrun, hended, _, _, rfl, ?_, ⟨_, rfl⟩, hW, hsame.mono (by decide) (by decide)⟩
  · exact X42.returnOut hx Bd.returns (hb hby dc_145) hr
  · show Qc2 Z a b kk0 c0 c1 h0 n0 _ T42.heap _
    rw [e42]
    exact ⟨rfl, N42, K, E_a, b2, b3, _, g_b2, g_b3, F_a_levelCounts, V_b2, F_a_strides, V_b3, F_a_size⟩
theorem pn_c3 : plainName "com/example/vanon/vanon/lattice/Lattice" = true := by first | (simp [plainName, overriddenIn]; done) | decide +kernel
theorem ef_c3 (m : MethodId) (a : Addr) (b : Addr) : entryFrame m #[(.ref a), (.ref b)] 8 = (mkF m 0 #[.val (.ref a), .val (.ref b), .unset, .unset, .unset, .unset, .unset, .unset] []) := by first | (simp [entryFrame, mkF, argsToLocals, Value.category]; done) | rfl
def Qc3 (Z : State) (a : Addr) (b : Addr) (kk0 : ClassId) (c0 : Int32) (c1 : Int32) (c2 : Int32) (h0 : Heap) (n0 : Nat) (v : Option Value) (h : Heap) (L : List Loc) : Prop := v = none ∧ Fr n0 L ∧ Keep h0 h [a] ∧ Exa Z h a "com/example/vanon/vanon/lattice/Lattice" ∧ ∃ (b2 b3 : Addr) (k3 : ClassId), n0 ≤ b2 ∧ n0 ≤ b3 ∧ Fld Z h a "com/example/vanon/vanon/lattice/Lattice" "levelCounts" "[I" (.ref b2) ∧ Arv Z h b2 kk0 .int (3 : Int32) ([(.int c0), (.int c1), (.int c2)] : List Value) (.int (0 : Int32)) ∧ Fld Z h a "com/example/vanon/vanon/lattice/Lattice" "strides" "[I" (.ref b3) ∧ Arv Z h b3 k3 .int (3 : Int32) ([(.int (((1 : Int32) * c2) * c1)), (.int ((1 : Int32) * c2)), (.int (1 : Int32))] : List Value) (.int (0 : Int32)) ∧ Fld Z h a "com/example/vanon/vanon/lattice/Lattice" "size" "I" (.int (((((1 : Int64) * (c0.toInt64)) * (c1.toInt64)) * (c2.toInt64)).toInt32))
set_option maxRecDepth 65536 in
set_option maxHeartbeats 40000000 in
theorem rmc3 (l : Launch) (Z : State) (a0 : Array Value) (hw : ∀ d ∈ tables_1, d.before a0 Z = true) (ws : List Jvm.Cond) (a : Addr) (b : Addr) (kk0 : ClassId) (c0 : Int32) (c1 : Int32) (c2 : Int32) (h0 : Heap) (n0 : Nat) (Z0 : n0 ≤ h0.size) (E_a : Exa Z h0 a "com/example/vanon/vanon/lattice/Lattice") (F_a_levelCounts : Fld Z h0 a "com/example/vanon/vanon/lattice/Lattice" "levelCounts" "[I" .null) (F_a_strides : Fld Z h0 a "com/example/vanon/vanon/lattice/Lattice" "strides" "[I" .null) (F_a_size : Fld Z h0 a "com/example/vanon/vanon/lattice/Lattice" "size" "I" (.int 0)) (E_b : Exa Z h0 b "[I") (V_b : Arv Z h0 b kk0 .int (3 : Int32) ([(.int c0), (.int c1), (.int c2)] : List Value) (.int (0 : Int32))) (g_a : n0 ≤ a) (hab : a ≠ b) (hp0 : 1 ≤ c0.toInt) (hq0 : ¬ (2147483639 : Int64) < ((1 : Int64) * (c0.toInt64))) (hp1 : 1 ≤ c1.toInt) (hq1 : ¬ (2147483639 : Int64) < (((1 : Int64) * (c0.toInt64)) * (c1.toInt64))) (hp2 : 1 ≤ c2.toInt) (hq2 : ¬ (2147483639 : Int64) < ((((1 : Int64) * (c0.toInt64)) * (c1.toInt64)) * (c2.toInt64))) :
    MetFree l (⟨"com/example/vanon/vanon/lattice/Lattice", "<init>", "([I)V"⟩ : MethodName) (head1 (Jvm.Cond.code (⟨"com/example/vanon/vanon/lattice/Lattice", "<init>", "([I)V"⟩ : MethodName) prog_16_method_1_code 8 none :: ws) ({ frames := 1, cells := 2, slots := 6, locals := 40 } : Room)) (fun as' U => as' = #[(.ref a), (.ref b)] ∧ Z.Warmed39 U.vm ∧ U.heap = h0) (fun _ _ _ _ _ => True) (fun _ U o U' => ∃ v L, o = .returned v ∧ Qc3 Z a b kk0 c0 c1 c2 h0 n0 v U'.heap L ∧ FrameEnd U o U' L ({ frames := 1, cells := 2, slots := 6, locals := 40 } : Room).cells ({ frames := 1, cells := 2, slots := 6, locals := 40 } : Room).slots) := by
  refine MetFree.of_bodySF (plainFor_of_name pn_c3) hisR ?_
  intro p e s m args below meth c s₁ Bd hml0 hP hK
  obtain ⟨rfl, hZ, hh⟩ := hP
  have hx := Bd.exec
  have hby := Bd.bytes
  have hml : c.maxLocals = 8 := hml0
  have hown : s.vm.findClass "com/example/vanon/vanon/lattice/Lattice" = some m.cls := findClass_of_methodNamed Bd.named
  have hnm := (name_of_methodNamed Bd.named Bd.method).1
  have X0 : Stand p l e ({ frames := 1, cells := 2, slots := 6, locals := 40 } : Room) s m #[(.ref a), (.ref b)] below meth c s₁ [] 0 0 := Stand.of_body Bd
  have e0 : s₁.heap = h0 := by rw [← hh, Bd.state]; rfl
  have N0 := Fr.nil n0
  have K : Keep h0 h0 [a] := Keep.refl _ _
  refine own_via (fun t k => castTop (ef_c3 m a b) k) ?_
  show own_G _ _ _ _ (s₁.setTop (mkF m 0 #[.val (.ref a), .val (.ref b), .unset, .unset, .unset, .unset, .unset, .unset] []))
  refine own_via (fun _ k => XS.aloadN X0.here hx rfl (hb hby dc_0) rfl rfl k) ?_
  show own_G _ _ _ _ (s₁.setTop (mkF m 1 #[.val (.ref a), .val (.ref b), .unset, .unset, .unset, .unset, .unset, .unset] [(.ref a)]))
  obtain ⟨T43, X43, e43, st43⟩ := initO X0 hx hZ hown (hw _ (List.mem_of_getElem? (i := 9) rfl)) (hw _ (List.mem_of_getElem? (i := 10) rfl)) (hw _ (List.mem_of_getElem? (i := 11) rfl)) e0 (g := (mkF m 1 #[.val (.ref a), .val (.ref b), .unset, .unset, .unset, .unset, .unset, .unset] [(.ref a)])) rfl (by rw [hml]; rfl) rfl (hb hby dc_1) (by decide) (W := 0) (by show 2 * 0 + _ ≤ _; exact Nat.le_of_eq rfl) (by decide)
  refine own_via st43 ?_
  show own_G _ _ _ _ (T43.setTop (mkF m 4 #[.val (.ref a), .val (.ref b), .unset, .unset, .unset, .unset, .unset, .unset] []))
  refine own_via (fun _ k => XS.lconst X43.here hx rfl (hb hby dc_4) k) ?_
  show own_G _ _ _ _ (T43.setTop (mkF m 5 #[.val (.ref a), .val (.ref b), .unset, .unset, .unset, .unset, .unset, .unset] [(.long (1 : Int64))]))
  refine own_via (fun _ k => XS.lstoreN X43.here hx rfl (hb hby dc_5) rfl (l' := #[.val (.ref a), .val (.ref b), .val (.long (1 : Int64)), .second, .unset, .unset, .unset, .unset]) rfl k) ?_
  show own_G _ _ _ _ (T43.setTop (mkF m 6 #[.val (.ref a), .val (.ref b), .val (.long (1 : Int64)), .second, .unset, .unset, .unset, .unset] []))
  refine own_via (fun _ k => XS.aloadN X43.here hx rfl (hb hby dc_6) rfl rfl k) ?_
  show own_G _ _ _ _ (T43.setTop (mkF m 7 #[.val (.ref a), .val (.ref b), .val (.long (1 : Int64)), .second, .unset, .unset, .unset, .unset] [(.ref b)]))
  refine own_via (fun _ k => XS.astore X43.here hx rfl (hb hby dc_7) rfl rfl (l' := #[.val (.ref a), .val (.ref b), .val (.long (1 : Int64)), .second, .val (.ref b), .unset, .unset, .unset]) rfl k) ?_
  show own_G _ _ _ _ (T43.setTop (mkF m 9 #[.val (.ref a), .val (.ref b), .val (.long (1 : Int64)), .second, .val (.ref b), .unset, .unset, .unset] []))
  refine own_via (fun _ k => XS.aload X43.here hx rfl (hb hby dc_9) rfl rfl k) ?_
  show own_G _ _ _ _ (T43.setTop (mkF m 11 #[.val (.ref a), .val (.ref b), .val (.long (1 : Int64)), .second, .val (.ref b), .unset, .unset, .unset] [(.ref b)]))
  obtain ⟨cl44, Ar44, -, Sz44, Nn44, -, -⟩ := id V_b
  refine own_via (fun _ k => X43.arraylength hx (by rw [e43]; exact Ar44.1) (State.isArrayOf_alike hZ.alike Ar44.2.1) (g := (mkF m 11 #[.val (.ref a), .val (.ref b), .val (.long (1 : Int64)), .second, .val (.ref b), .unset, .unset, .unset] [(.ref b)])) rfl rfl (hb hby dc_11) _ k) ?_
  rw [len_of Sz44 Nn44]
  show own_G _ _ _ _ (T43.setTop (mkF m 12 #[.val (.ref a), .val (.ref b), .val (.long (1 : Int64)), .second, .val (.ref b), .unset, .unset, .unset] [(.int (3 : Int32))]))
  refine own_via (fun _ k => XS.istore X43.here hx rfl (hb hby dc_12) rfl (l' := #[.val (.ref a), .val (.ref b), .val (.long (1 : Int64)), .second, .val (.ref b), .val (.int (3 : Int32)), .unset, .unset]) rfl k) ?_
  show own_G _ _ _ _ (T43.setTop (mkF m 14 #[.val (.ref a), .val (.ref b), .val (.long (1 : Int64)), .second, .val (.ref b), .val (.int (3 : Int32)), .unset, .unset] []))
  refine own_via (fun _ k => XS.iconst X43.here hx rfl (hb hby dc_14) k) ?_
  show own_G _ _ _ _ (T43.setTop (mkF m 15 #[.val (.ref a), .val (.ref b), .val (.long (1 : Int64)), .second, .val (.ref b), .val (.int (3 : Int32)), .unset, .unset] [(.int (0 : Int32))]))
  refine own_via (fun _ k => XS.istore X43.here hx rfl (hb hby dc_15) rfl (l' := #[.val (.ref a), .val (.ref b), .val (.long (1 : Int64)), .second, .val (.ref b), .val (.int (3 : Int32)), .val (.int (0 : Int32)), .unset]) rfl k) ?_
  show own_G _ _ _ _ (T43.setTop (mkF m 17 #[.val (.ref a), .val (.ref b), .val (.long (1 : Int64)), .second, .val (.ref b), .val (.int (3 : Int32)), .val (.int (0 : Int32)), .unset] []))
  refine own_via (fun _ k => XS.iload X43.here hx rfl (hb hby dc_17) rfl k) ?_
  show own_G _ _ _ _ (T43.setTop (mkF m 19 #[.val (.ref a), .val (.ref b), .val (.long (1 : Int64)), .second, .val (.ref b), .val (.int (3 : Int32)), .val (.int (0 : Int32)), .unset] [(.int (0 : Int32))]))
  refine own_via (fun _ k => XS.iload X43.here hx rfl (hb hby dc_19) rfl k) ?_
  show own_G _ _ _ _ (T43.setTop (mkF m 21 #[.val (.ref a), .val (.ref b), .val (.long (1 : Int64)), .second, .val (.ref b), .val (.int (3 : Int32)), .val (.int (0 : Int32)), .unset] [(.int (3 : Int32)), (.int (0 : Int32))]))
  refine own_via (fun _ k => XS.icmpNo X43.here hx rfl (hb hby dc_21) rfl (tlt (by decide)).2.1 k) ?_
  show own_G _ _ _ _ (T43.setTop (mkF m 24 #[.val (.ref a), .val (.ref b), .val (.long (1 : Int64)), .second, .val (.ref b), .val (.int (3 : Int32)), .val (.int (0 : Int32)), .unset] []))
  refine own_via (fun _ k => XS.aload X43.here hx rfl (hb hby dc_24) rfl rfl k) ?_
  show own_G _ _ _ _ (T43.setTop (mkF m 26 #[.val (.ref a), .val (.ref b), .val (.long (1 : Int64)), .second, .val (.ref b), .val (.int (3 : Int32)), .val (.int (0 : Int32)), .unset] [(.ref b)]))
  refine own_via (fun _ k => XS.iload X43.here hx rfl (hb hby dc_26) rfl k) ?_
  show own_G _ _ _ _ (T43.setTop (mkF m 28 #[.val (.ref a), .val (.ref b), .val (.long (1 : Int64)), .second, .val (.ref b), .val (.int (3 : Int32)), .val (.int (0 : Int32)), .unset] [(.int (0 : Int32)), (.ref b)]))
  obtain ⟨cl45, Ar45, -, Sz45, Nn45, Hh45, -⟩ := id V_b
  have hin45 : ¬ ((0 : Int32) < 0 ∨ cl45.slots.size ≤ ((0 : Int32)).toNatClampNeg) := inb_of Sz45 ⟨by decide, by decide⟩
  have hat45 : cl45.slots[((0 : Int32)).toNatClampNeg]? = some (.int c0) := Has.at Hh45 hin45 rfl
  refine own_via (fun _ k => X43.iaload hx (j := (0 : Int32)) (v := (.int c0)) (by rw [e43]; exact Ar45.1) (State.isArrayOf_alike hZ.alike Ar45.2.1) Ar45.2.2 hin45 hat45 (g := (mkF m 28 #[.val (.ref a), .val (.ref b), .val (.long (1 : Int64)), .second, .val (.ref b), .val (.int (3 : Int32)), .val (.int (0 : Int32)), .unset] [(.int (0 : Int32)), (.ref b)])) rfl rfl (hb hby dc_28) _ k) ?_
  show own_G _ _ _ _ (T43.setTop (mkF m 29 #[.val (.ref a), .val (.ref b), .val (.long (1 : Int64)), .second, .val (.ref b), .val (.int (3 : Int32)), .val (.int (0 : Int32)), .unset] [(.int c0)]))
  refine own_via (fun _ k => XS.istore X43.here hx rfl (hb hby dc_29) rfl (l' := #[.val (.ref a), .val (.ref b), .val (.long (1 : Int64)), .second, .val (.ref b), .val (.int (3 : Int32)), .val (.int (0 : Int32)), .val (.int c0)]) rfl k) ?_
  show own_G _ _ _ _ (T43.setTop (mkF m 31 #[.val (.ref a), .val (.ref b), .val (.long (1 : Int64)), .second, .val (.ref b), .val (.int (3 : Int32)), .val (.int (0 : Int32)), .val (.int c0)] []))
  refine own_via (fun _ k => XS.iload X43.here hx rfl (hb hby dc_31) rfl k) ?_
  show own_G _ _ _ _ (T43.setTop (mkF m 33 #[.val (.ref a), .val (.ref b), .val (.long (1 : Int64)), .second, .val (.ref b), .val (.int (3 : Int32)), .val (.int (0 : Int32)), .val (.int c0)] [(.int c0)]))
  refine own_via (fun _ k => XS.iconst X43.here hx rfl (hb hby dc_33) k) ?_
  show own_G _ _ _ _ (T43.setTop (mkF m 34 #[.val (.ref a), .val (.ref b), .val (.long (1 : Int64)), .second, .val (.ref b), .val (.int (3 : Int32)), .val (.int (0 : Int32)), .val (.int c0)] [(.int (1 : Int32)), (.int c0)]))
  refine own_via (fun _ k => XS.icmpYes X43.here hx rfl (pc0 := 34) (pc' := 52) rfl (hb hby dc_34) rfl (flt (own_ge1 hp0)).2.1 (by decide) (by decide) k) ?_
  show own_G _ _ _ _ (T43.setTop (mkF m 52 #[.val (.ref a), .val (.ref b), .val (.long (1 : Int64)), .second, .val (.ref b), .val (.int (3 : Int32)), .val (.int (0 : Int32)), .val (.int c0)] []))
  refine own_via (fun _ k => XS.lloadN X43.here hx rfl (hb hby dc_52) rfl k) ?_
  show own_G _ _ _ _ (T43.setTop (mkF m 53 #[.val (.ref a), .val (.ref b), .val (.long (1 : Int64)), .second, .val (.ref b), .val (.int (3 : Int32)), .val (.int (0 : Int32)), .val (.int c0)] [(.long (1 : Int64))]))
  refine own_via (fun _ k => XS.iload X43.here hx rfl (hb hby dc_53) rfl k) ?_
  show own_G _ _ _ _ (T43.setTop (mkF m 55 #[.val (.ref a), .val (.ref b), .val (.long (1 : Int64)), .second, .val (.ref b), .val (.int (3 : Int32)), .val (.int (0 : Int32)), .val (.int c0)] [(.int c0), (.long (1 : Int64))]))
  refine own_via (fun _ k => XS.i2l X43.here hx rfl (hb hby dc_55) rfl k) ?_
  show own_G _ _ _ _ (T43.setTop (mkF m 56 #[.val (.ref a), .val (.ref b), .val (.long (1 : Int64)), .second, .val (.ref b), .val (.int (3 : Int32)), .val (.int (0 : Int32)), .val (.int c0)] [(.long (c0.toInt64)), (.long (1 : Int64))]))
  refine own_via (fun _ k => XS.lmul X43.here hx rfl (hb hby dc_56) rfl k) ?_
  show own_G _ _ _ _ (T43.setTop (mkF m 57 #[.val (.ref a), .val (.ref b), .val (.long (1 : Int64)), .second, .val (.ref b), .val (.int (3 : Int32)), .val (.int (0 : Int32)), .val (.int c0)] [(.long ((1 : Int64) * (c0.toInt64)))]))
  refine own_via (fun _ k => XS.lstoreN X43.here hx rfl (hb hby dc_57) rfl (l' := #[.val (.ref a), .val (.ref b), .val (.long ((1 : Int64) * (c0.toInt64))), .second, .val (.ref b), .val (.int (3 : Int32)), .val (.int (0 : Int32)), .val (.int c0)]) rfl k) ?_
  show own_G _ _ _ _ (T43.setTop (mkF m 58 #[.val (.ref a), .val (.ref b), .val (.long ((1 : Int64) * (c0.toInt64))), .second, .val (.ref b), .val (.int (3 : Int32)), .val (.int (0 : Int32)), .val (.int c0)] []))
  refine own_via (fun _ k => XS.lloadN X43.here hx rfl (hb hby dc_58) rfl k) ?_
  show own_G _ _ _ _ (T43.setTop (mkF m 59 #[.val (.ref a), .val (.ref b), .val (.long ((1 : Int64) * (c0.toInt64))), .second, .val (.ref b), .val (.int (3 : Int32)), .val (.int (0 : Int32)), .val (.int c0)] [(.long ((1 : Int64) * (c0.toInt64)))]))
  refine own_via (fun _ k => X43.ldc2Long hx hown (mvT hZ (hw _ (List.mem_of_getElem? (i := 32) rfl))) (g := (mkF m 59 #[.val (.ref a), .val (.ref b), .val (.long ((1 : Int64) * (c0.toInt64))), .second, .val (.ref b), .val (.int (3 : Int32)), .val (.int (0 : Int32)), .val (.int c0)] [(.long ((1 : Int64) * (c0.toInt64)))])) rfl (hb hby dc_59) _ k) ?_
  show own_G _ _ _ _ (T43.setTop (mkF m 62 #[.val (.ref a), .val (.ref b), .val (.long ((1 : Int64) * (c0.toInt64))), .second, .val (.ref b), .val (.int (3 : Int32)), .val (.int (0 : Int32)), .val (.int c0)] [(.long (2147483639 : Int64)), (.long ((1 : Int64) * (c0.toInt64)))]))
  refine own_via (fun _ k => XS.lcmp X43.here hx rfl (hb hby dc_62) rfl k) ?_
  show own_G _ _ _ _ (T43.setTop (mkF m 63 #[.val (.ref a), .val (.ref b), .val (.long ((1 : Int64) * (c0.toInt64))), .second, .val (.ref b), .val (.int (3 : Int32)), .val (.int (0 : Int32)), .val (.int c0)] [(.int (lcmpW ((1 : Int64) * (c0.toInt64)) (2147483639 : Int64)))]))
  refine own_via (fun _ k => XS.ifYes X43.here hx rfl (pc0 := 63) (pc' := 76) rfl (hb hby dc_63) rfl ((if0 _ _).trans (flt (fun z => hq0 ((lw_gt _ _).mp z))).2.2.2) (by decide) (by decide) k) ?_
  show own_G _ _ _ _ (T43.setTop (mkF m 76 #[.val (.ref a), .val (.ref b), .val (.long ((1 : Int64) * (c0.toInt64))), .second, .val (.ref b), .val (.int (3 : Int32)), .val (.int (0 : Int32)), .val (.int c0)] []))
  refine own_via (fun _ k => XS.iinc X43.here hx rfl (hb hby dc_76) rfl (l' := #[.val (.ref a), .val (.ref b), .val (.long ((1 : Int64) * (c0.toInt64))), .second, .val (.ref b), .val (.int (3 : Int32)), .val (.int ((0 : Int32) + (1 : Int32))), .val (.int c0)]) rfl k) ?_
  show own_G _ _ _ _ (T43.setTop (mkF m 79 #[.val (.ref a), .val (.ref b), .val (.long ((1 : Int64) * (c0.toInt64))), .second, .val (.ref b), .val (.int (3 : Int32)), .val (.int ((0 : Int32) + (1 : Int32))), .val (.int c0)] []))
  refine own_via (fun _ k => XS.goto X43.here hx rfl (pc0 := 79) (pc' := 17) rfl (hb hby dc_79) (by decide) (by decide) k) ?_
  show own_G _ _ _ _ (T43.setTop (mkF m 17 #[.val (.ref a), .val (.ref b), .val (.long ((1 : Int64) * (c0.toInt64))), .second, .val (.ref b), .val (.int (3 : Int32)), .val (.int ((0 : Int32) + (1 : Int32))), .val (.int c0)] []))
  refine own_via (fun _ k => XS.iload X43.here hx rfl (hb hby dc_17) rfl k) ?_
  show own_G _ _ _ _ (T43.setTop (mkF m 19 #[.val (.ref a), .val (.ref b), .val (.long ((1 : Int64) * (c0.toInt64))), .second, .val (.ref b), .val (.int (3 : Int32)), .val (.int ((0 : Int32) + (1 : Int32))), .val (.int c0)] [(.int ((0 : Int32) + (1 : Int32)))]))
  refine own_via (fun _ k => XS.iload X43.here hx rfl (hb hby dc_19) rfl k) ?_
  show own_G _ _ _ _ (T43.setTop (mkF m 21 #[.val (.ref a), .val (.ref b), .val (.long ((1 : Int64) * (c0.toInt64))), .second, .val (.ref b), .val (.int (3 : Int32)), .val (.int ((0 : Int32) + (1 : Int32))), .val (.int c0)] [(.int (3 : Int32)), (.int ((0 : Int32) + (1 : Int32)))]))
  refine own_via (fun _ k => XS.icmpNo X43.here hx rfl (hb hby dc_21) rfl (tlt (by decide)).2.1 k) ?_
  show own_G _ _ _ _ (T43.setTop (mkF m 24 #[.val (.ref a), .val (.ref b), .val (.long ((1 : Int64) * (c0.toInt64))), .second, .val (.ref b), .val (.int (3 : Int32)), .val (.int ((0 : Int32) + (1 : Int32))), .val (.int c0)] []))
  refine own_via (fun _ k => XS.aload X43.here hx rfl (hb hby dc_24) rfl rfl k) ?_
  show own_G _ _ _ _ (T43.setTop (mkF m 26 #[.val (.ref a), .val (.ref b), .val (.long ((1 : Int64) * (c0.toInt64))), .second, .val (.ref b), .val (.int (3 : Int32)), .val (.int ((0 : Int32) + (1 : Int32))), .val (.int c0)] [(.ref b)]))
  refine own_via (fun _ k => XS.iload X43.here hx rfl (hb hby dc_26) rfl k) ?_
  show own_G _ _ _ _ (T43.setTop (mkF m 28 #[.val (.ref a), .val (.ref b), .val (.long ((1 : Int64) * (c0.toInt64))), .second, .val (.ref b), .val (.int (3 : Int32)), .val (.int ((0 : Int32) + (1 : Int32))), .val (.int c0)] [(.int ((0 : Int32) + (1 : Int32))), (.ref b)]))
  obtain ⟨cl46, Ar46, -, Sz46, Nn46, Hh46, -⟩ := id V_b
  have hin46 : ¬ (((0 : Int32) + (1 : Int32)) < 0 ∨ cl46.slots.size ≤ (((0 : Int32) + (1 : Int32))).toNatClampNeg) := inb_of Sz46 ⟨by decide, by decide⟩
  have hat46 : cl46.slots[(((0 : Int32) + (1 : Int32))).toNatClampNeg]? = some (.int c1) := Has.at Hh46 hin46 rfl
  refine own_via (fun _ k => X43.iaload hx (j := ((0 : Int32) + (1 : Int32))) (v := (.int c1)) (by rw [e43]; exact Ar46.1) (State.isArrayOf_alike hZ.alike Ar46.2.1) Ar46.2.2 hin46 hat46 (g := (mkF m 28 #[.val (.ref a), .val (.ref b), .val (.long ((1 : Int64) * (c0.toInt64))), .second, .val (.ref b), .val (.int (3 : Int32)), .val (.int ((0 : Int32) + (1 : Int32))), .val (.int c0)] [(.int ((0 : Int32) + (1 : Int32))), (.ref b)])) rfl rfl (hb hby dc_28) _ k) ?_
  show own_G _ _ _ _ (T43.setTop (mkF m 29 #[.val (.ref a), .val (.ref b), .val (.long ((1 : Int64) * (c0.toInt64))), .second, .val (.ref b), .val (.int (3 : Int32)), .val (.int ((0 : Int32) + (1 : Int32))), .val (.int c0)] [(.int c1)]))
  refine own_via (fun _ k => XS.istore X43.here hx rfl (hb hby dc_29) rfl (l' := #[.val (.ref a), .val (.ref b), .val (.long ((1 : Int64) * (c0.toInt64))), .second, .val (.ref b), .val (.int (3 : Int32)), .val (.int ((0 : Int32) + (1 : Int32))), .val (.int c1)]) rfl k) ?_
  show own_G _ _ _ _ (T43.setTop (mkF m 31 #[.val (.ref a), .val (.ref b), .val (.long ((1 : Int64) * (c0.toInt64))), .second, .val (.ref b), .val (.int (3 : Int32)), .val (.int ((0 : Int32) + (1 : Int32))), .val (.int c1)] []))
  refine own_via (fun _ k => XS.iload X43.here hx rfl (hb hby dc_31) rfl k) ?_
  show own_G _ _ _ _ (T43.setTop (mkF m 33 #[.val (.ref a), .val (.ref b), .val (.long ((1 : Int64) * (c0.toInt64))), .second, .val (.ref b), .val (.int (3 : Int32)), .val (.int ((0 : Int32) + (1 : Int32))), .val (.int c1)] [(.int c1)]))
  refine own_via (fun _ k => XS.iconst X43.here hx rfl (hb hby dc_33) k) ?_
  show own_G _ _ _ _ (T43.setTop (mkF m 34 #[.val (.ref a), .val (.ref b), .val (.long ((1 : Int64) * (c0.toInt64))), .second, .val (.ref b), .val (.int (3 : Int32)), .val (.int ((0 : Int32) + (1 : Int32))), .val (.int c1)] [(.int (1 : Int32)), (.int c1)]))
  refine own_via (fun _ k => XS.icmpYes X43.here hx rfl (pc0 := 34) (pc' := 52) rfl (hb hby dc_34) rfl (flt (own_ge1 hp1)).2.1 (by decide) (by decide) k) ?_
  show own_G _ _ _ _ (T43.setTop (mkF m 52 #[.val (.ref a), .val (.ref b), .val (.long ((1 : Int64) * (c0.toInt64))), .second, .val (.ref b), .val (.int (3 : Int32)), .val (.int ((0 : Int32) + (1 : Int32))), .val (.int c1)] []))
  refine own_via (fun _ k => XS.lloadN X43.here hx rfl (hb hby dc_52) rfl k) ?_
  show own_G _ _ _ _ (T43.setTop (mkF m 53 #[.val (.ref a), .val (.ref b), .val (.long ((1 : Int64) * (c0.toInt64))), .second, .val (.ref b), .val (.int (3 : Int32)), .val (.int ((0 : Int32) + (1 : Int32))), .val (.int c1)] [(.long ((1 : Int64) * (c0.toInt64)))]))
  refine own_via (fun _ k => XS.iload X43.here hx rfl (hb hby dc_53) rfl k) ?_
  show own_G _ _ _ _ (T43.setTop (mkF m 55 #[.val (.ref a), .val (.ref b), .val (.long ((1 : Int64) * (c0.toInt64))), .second, .val (.ref b), .val (.int (3 : Int32)), .val (.int ((0 : Int32) + (1 : Int32))), .val (.int c1)] [(.int c1), (.long ((1 : Int64) * (c0.toInt64)))]))
  refine own_via (fun _ k => XS.i2l X43.here hx rfl (hb hby dc_55) rfl k) ?_
  show own_G _ _ _ _ (T43.setTop (mkF m 56 #[.val (.ref a), .val (.ref b), .val (.long ((1 : Int64) * (c0.toInt64))), .second, .val (.ref b), .val (.int (3 : Int32)), .val (.int ((0 : Int32) + (1 : Int32))), .val (.int c1)] [(.long (c1.toInt64)), (.long ((1 : Int64) * (c0.toInt64)))]))
  refine own_via (fun _ k => XS.lmul X43.here hx rfl (hb hby dc_56) rfl k) ?_
  show own_G _ _ _ _ (T43.setTop (mkF m 57 #[.val (.ref a), .val (.ref b), .val (.long ((1 : Int64) * (c0.toInt64))), .second, .val (.ref b), .val (.int (3 : Int32)), .val (.int ((0 : Int32) + (1 : Int32))), .val (.int c1)] [(.long (((1 : Int64) * (c0.toInt64)) * (c1.toInt64)))]))
  refine own_via (fun _ k => XS.lstoreN X43.here hx rfl (hb hby dc_57) rfl (l' := #[.val (.ref a), .val (.ref b), .val (.long (((1 : Int64) * (c0.toInt64)) * (c1.toInt64))), .second, .val (.ref b), .val (.int (3 : Int32)), .val (.int ((0 : Int32) + (1 : Int32))), .val (.int c1)]) rfl k) ?_
  show own_G _ _ _ _ (T43.setTop (mkF m 58 #[.val (.ref a), .val (.ref b), .val (.long (((1 : Int64) * (c0.toInt64)) * (c1.toInt64))), .second, .val (.ref b), .val (.int (3 : Int32)), .val (.int ((0 : Int32) + (1 : Int32))), .val (.int c1)] []))
  refine own_via (fun _ k => XS.lloadN X43.here hx rfl (hb hby dc_58) rfl k) ?_
  show own_G _ _ _ _ (T43.setTop (mkF m 59 #[.val (.ref a), .val (.ref b), .val (.long (((1 : Int64) * (c0.toInt64)) * (c1.toInt64))), .second, .val (.ref b), .val (.int (3 : Int32)), .val (.int ((0 : Int32) + (1 : Int32))), .val (.int c1)] [(.long (((1 : Int64) * (c0.toInt64)) * (c1.toInt64)))]))
  refine own_via (fun _ k => X43.ldc2Long hx hown (mvT hZ (hw _ (List.mem_of_getElem? (i := 32) rfl))) (g := (mkF m 59 #[.val (.ref a), .val (.ref b), .val (.long (((1 : Int64) * (c0.toInt64)) * (c1.toInt64))), .second, .val (.ref b), .val (.int (3 : Int32)), .val (.int ((0 : Int32) + (1 : Int32))), .val (.int c1)] [(.long (((1 : Int64) * (c0.toInt64)) * (c1.toInt64)))])) rfl (hb hby dc_59) _ k) ?_
  show own_G _ _ _ _ (T43.setTop (mkF m 62 #[.val (.ref a), .val (.ref b), .val (.long (((1 : Int64) * (c0.toInt64)) * (c1.toInt64))), .second, .val (.ref b), .val (.int (3 : Int32)), .val (.int ((0 : Int32) + (1 : Int32))), .val (.int c1)] [(.long (2147483639 : Int64)), (.long (((1 : Int64) * (c0.toInt64)) * (c1.toInt64)))]))
  refine own_via (fun _ k => XS.lcmp X43.here hx rfl (hb hby dc_62) rfl k) ?_
  show own_G _ _ _ _ (T43.setTop (mkF m 63 #[.val (.ref a), .val (.ref b), .val (.long (((1 : Int64) * (c0.toInt64)) * (c1.toInt64))), .second, .val (.ref b), .val (.int (3 : Int32)), .val (.int ((0 : Int32) + (1 : Int32))), .val (.int c1)] [(.int (lcmpW (((1 : Int64) * (c0.toInt64)) * (c1.toInt64)) (2147483639 : Int64)))]))
  refine own_via (fun _ k => XS.ifYes X43.here hx rfl (pc0 := 63) (pc' := 76) rfl (hb hby dc_63) rfl ((if0 _ _).trans (flt (fun z => hq1 ((lw_gt _ _).mp z))).2.2.2) (by decide) (by decide) k) ?_
  show own_G _ _ _ _ (T43.setTop (mkF m 76 #[.val (.ref a), .val (.ref b), .val (.long (((1 : Int64) * (c0.toInt64)) * (c1.toInt64))), .second, .val (.ref b), .val (.int (3 : Int32)), .val (.int ((0 : Int32) + (1 : Int32))), .val (.int c1)] []))
  refine own_via (fun _ k => XS.iinc X43.here hx rfl (hb hby dc_76) rfl (l' := #[.val (.ref a), .val (.ref b), .val (.long (((1 : Int64) * (c0.toInt64)) * (c1.toInt64))), .second, .val (.ref b), .val (.int (3 : Int32)), .val (.int (((0 : Int32) + (1 : Int32)) + (1 : Int32))), .val (.int c1)]) rfl k) ?_
  show own_G _ _ _ _ (T43.setTop (mkF m 79 #[.val (.ref a), .val (.ref b), .val (.long (((1 : Int64) * (c0.toInt64)) * (c1.toInt64))), .second, .val (.ref b), .val (.int (3 : Int32)), .val (.int (((0 : Int32) + (1 : Int32)) + (1 : Int32))), .val (.int c1)] []))
  refine own_via (fun _ k => XS.goto X43.here hx rfl (pc0 := 79) (pc' := 17) rfl (hb hby dc_79) (by decide) (by decide) k) ?_
  show own_G _ _ _ _ (T43.setTop (mkF m 17 #[.val (.ref a), .val (.ref b), .val (.long (((1 : Int64) * (c0.toInt64)) * (c1.toInt64))), .second, .val (.ref b), .val (.int (3 : Int32)), .val (.int (((0 : Int32) + (1 : Int32)) + (1 : Int32))), .val (.int c1)] []))
  refine own_via (fun _ k => XS.iload X43.here hx rfl (hb hby dc_17) rfl k) ?_
  show own_G _ _ _ _ (T43.setTop (mkF m 19 #[.val (.ref a), .val (.ref b), .val (.long (((1 : Int64) * (c0.toInt64)) * (c1.toInt64))), .second, .val (.ref b), .val (.int (3 : Int32)), .val (.int (((0 : Int32) + (1 : Int32)) + (1 : Int32))), .val (.int c1)] [(.int (((0 : Int32) + (1 : Int32)) + (1 : Int32)))]))
  refine own_via (fun _ k => XS.iload X43.here hx rfl (hb hby dc_19) rfl k) ?_
  show own_G _ _ _ _ (T43.setTop (mkF m 21 #[.val (.ref a), .val (.ref b), .val (.long (((1 : Int64) * (c0.toInt64)) * (c1.toInt64))), .second, .val (.ref b), .val (.int (3 : Int32)), .val (.int (((0 : Int32) + (1 : Int32)) + (1 : Int32))), .val (.int c1)] [(.int (3 : Int32)), (.int (((0 : Int32) + (1 : Int32)) + (1 : Int32)))]))
  refine own_via (fun _ k => XS.icmpNo X43.here hx rfl (hb hby dc_21) rfl (tlt (by decide)).2.1 k) ?_
  show own_G _ _ _ _ (T43.setTop (mkF m 24 #[.val (.ref a), .val (.ref b), .val (.long (((1 : Int64) * (c0.toInt64)) * (c1.toInt64))), .second, .val (.ref b), .val (.int (3 : Int32)), .val (.int (((0 : Int32) + (1 : Int32)) + (1 : Int32))), .val (.int c1)] []))
  refine own_via (fun _ k => XS.aload X43.here hx rfl (hb hby dc_24) rfl rfl k) ?_
  show own_G _ _ _ _ (T43.setTop (mkF m 26 #[.val (.ref a), .val (.ref b), .val (.long (((1 : Int64) * (c0.toInt64)) * (c1.toInt64))), .second, .val (.ref b), .val (.int (3 : Int32)), .val (.int (((0 : Int32) + (1 : Int32)) + (1 : Int32))), .val (.int c1)] [(.ref b)]))
  refine own_via (fun _ k => XS.iload X43.here hx rfl (hb hby dc_26) rfl k) ?_
  show own_G _ _ _ _ (T43.setTop (mkF m 28 #[.val (.ref a), .val (.ref b), .val (.long (((1 : Int64) * (c0.toInt64)) * (c1.toInt64))), .second, .val (.ref b), .val (.int (3 : Int32)), .val (.int (((0 : Int32) + (1 : Int32)) + (1 : Int32))), .val (.int c1)] [(.int (((0 : Int32) + (1 : Int32)) + (1 : Int32))), (.ref b)]))
  obtain ⟨cl47, Ar47, -, Sz47, Nn47, Hh47, -⟩ := id V_b
  have hin47 : ¬ ((((0 : Int32) + (1 : Int32)) + (1 : Int32)) < 0 ∨ cl47.slots.size ≤ ((((0 : Int32) + (1 : Int32)) + (1 : Int32))).toNatClampNeg) := inb_of Sz47 ⟨by decide, by decide⟩
  have hat47 : cl47.slots[((((0 : Int32) + (1 : Int32)) + (1 : Int32))).toNatClampNeg]? = some (.int c2) := Has.at Hh47 hin47 rfl
  refine own_via (fun _ k => X43.iaload hx (j := (((0 : Int32) + (1 : Int32)) + (1 : Int32))) (v := (.int c2)) (by rw [e43]; exact Ar47.1) (State.isArrayOf_alike hZ.alike Ar47.2.1) Ar47.2.2 hin47 hat47 (g := (mkF m 28 #[.val (.ref a), .val (.ref b), .val (.long (((1 : Int64) * (c0.toInt64)) * (c1.toInt64))), .second, .val (.ref b), .val (.int (3 : Int32)), .val (.int (((0 : Int32) + (1 : Int32)) + (1 : Int32))), .val (.int c1)] [(.int (((0 : Int32) + (1 : Int32)) + (1 : Int32))), (.ref b)])) rfl rfl (hb hby dc_28) _ k) ?_
  show own_G _ _ _ _ (T43.setTop (mkF m 29 #[.val (.ref a), .val (.ref b), .val (.long (((1 : Int64) * (c0.toInt64)) * (c1.toInt64))), .second, .val (.ref b), .val (.int (3 : Int32)), .val (.int (((0 : Int32) + (1 : Int32)) + (1 : Int32))), .val (.int c1)] [(.int c2)]))
  refine own_via (fun _ k => XS.istore X43.here hx rfl (hb hby dc_29) rfl (l' := #[.val (.ref a), .val (.ref b), .val (.long (((1 : Int64) * (c0.toInt64)) * (c1.toInt64))), .second, .val (.ref b), .val (.int (3 : Int32)), .val (.int (((0 : Int32) + (1 : Int32)) + (1 : Int32))), .val (.int c2)]) rfl k) ?_
  show own_G _ _ _ _ (T43.setTop (mkF m 31 #[.val (.ref a), .val (.ref b), .val (.long (((1 : Int64) * (c0.toInt64)) * (c1.toInt64))), .second, .val (.ref b), .val (.int (3 : Int32)), .val (.int (((0 : Int32) + (1 : Int32)) + (1 : Int32))), .val (.int c2)] []))
  refine own_via (fun _ k => XS.iload X43.here hx rfl (hb hby dc_31) rfl k) ?_
  show own_G _ _ _ _ (T43.setTop (mkF m 33 #[.val (.ref a), .val (.ref b), .val (.long (((1 : Int64) * (c0.toInt64)) * (c1.toInt64))), .second, .val (.ref b), .val (.int (3 : Int32)), .val (.int (((0 : Int32) + (1 : Int32)) + (1 : Int32))), .val (.int c2)] [(.int c2)]))
  refine own_via (fun _ k => XS.iconst X43.here hx rfl (hb hby dc_33) k) ?_
  show own_G _ _ _ _ (T43.setTop (mkF m 34 #[.val (.ref a), .val (.ref b), .val (.long (((1 : Int64) * (c0.toInt64)) * (c1.toInt64))), .second, .val (.ref b), .val (.int (3 : Int32)), .val (.int (((0 : Int32) + (1 : Int32)) + (1 : Int32))), .val (.int c2)] [(.int (1 : Int32)), (.int c2)]))
  refine own_via (fun _ k => XS.icmpYes X43.here hx rfl (pc0 := 34) (pc' := 52) rfl (hb hby dc_34) rfl (flt (own_ge1 hp2)).2.1 (by decide) (by decide) k) ?_
  show own_G _ _ _ _ (T43.setTop (mkF m 52 #[.val (.ref a), .val (.ref b), .val (.long (((1 : Int64) * (c0.toInt64)) * (c1.toInt64))), .second, .val (.ref b), .val (.int (3 : Int32)), .val (.int (((0 : Int32) + (1 : Int32)) + (1 : Int32))), .val (.int c2)] []))
  refine own_via (fun _ k => XS.lloadN X43.here hx rfl (hb hby dc_52) rfl k) ?_
  show own_G _ _ _ _ (T43.setTop (mkF m 53 #[.val (.ref a), .val (.ref b), .val (.long (((1 : Int64) * (c0.toInt64)) * (c1.toInt64))), .second, .val (.ref b), .val (.int (3 : Int32)), .val (.int (((0 : Int32) + (1 : Int32)) + (1 : Int32))), .val (.int c2)] [(.long (((1 : Int64) * (c0.toInt64)) * (c1.toInt64)))]))
  refine own_via (fun _ k => XS.iload X43.here hx rfl (hb hby dc_53) rfl k) ?_
  show own_G _ _ _ _ (T43.setTop (mkF m 55 #[.val (.ref a), .val (.ref b), .val (.long (((1 : Int64) * (c0.toInt64)) * (c1.toInt64))), .second, .val (.ref b), .val (.int (3 : Int32)), .val (.int (((0 : Int32) + (1 : Int32)) + (1 : Int32))), .val (.int c2)] [(.int c2), (.long (((1 : Int64) * (c0.toInt64)) * (c1.toInt64)))]))
  refine own_via (fun _ k => XS.i2l X43.here hx rfl (hb hby dc_55) rfl k) ?_
  show own_G _ _ _ _ (T43.setTop (mkF m 56 #[.val (.ref a), .val (.ref b), .val (.long (((1 : Int64) * (c0.toInt64)) * (c1.toInt64))), .second, .val (.ref b), .val (.int (3 : Int32)), .val (.int (((0 : Int32) + (1 : Int32)) + (1 : Int32))), .val (.int c2)] [(.long (c2.toInt64)), (.long (((1 : Int64) * (c0.toInt64)) * (c1.toInt64)))]))
  refine own_via (fun _ k => XS.lmul X43.here hx rfl (hb hby dc_56) rfl k) ?_
  show own_G _ _ _ _ (T43.setTop (mkF m 57 #[.val (.ref a), .val (.ref b), .val (.long (((1 : Int64) * (c0.toInt64)) * (c1.toInt64))), .second, .val (.ref b), .val (.int (3 : Int32)), .val (.int (((0 : Int32) + (1 : Int32)) + (1 : Int32))), .val (.int c2)] [(.long ((((1 : Int64) * (c0.toInt64)) * (c1.toInt64)) * (c2.toInt64)))]))
  refine own_via (fun _ k => XS.lstoreN X43.here hx rfl (hb hby dc_57) rfl (l' := #[.val (.ref a), .val (.ref b), .val (.long ((((1 : Int64) * (c0.toInt64)) * (c1.toInt64)) * (c2.toInt64))), .second, .val (.ref b), .val (.int (3 : Int32)), .val (.int (((0 : Int32) + (1 : Int32)) + (1 : Int32))), .val (.int c2)]) rfl k) ?_
  show own_G _ _ _ _ (T43.setTop (mkF m 58 #[.val (.ref a), .val (.ref b), .val (.long ((((1 : Int64) * (c0.toInt64)) * (c1.toInt64)) * (c2.toInt64))), .second, .val (.ref b), .val (.int (3 : Int32)), .val (.int (((0 : Int32) + (1 : Int32)) + (1 : Int32))), .val (.int c2)] []))
  refine own_via (fun _ k => XS.lloadN X43.here hx rfl (hb hby dc_58) rfl k) ?_
  show own_G _ _ _ _ (T43.setTop (mkF m 59 #[.val (.ref a), .val (.ref b), .val (.long ((((1 : Int64) * (c0.toInt64)) * (c1.toInt64)) * (c2.toInt64))), .second, .val (.ref b), .val (.int (3 : Int32)), .val (.int (((0 : Int32) + (1 : Int32)) + (1 : Int32))), .val (.int c2)] [(.long ((((1 : Int64) * (c0.toInt64)) * (c1.toInt64)) * (c2.toInt64)))]))
  refine own_via (fun _ k => X43.ldc2Long hx hown (mvT hZ (hw _ (List.mem_of_getElem? (i := 32) rfl))) (g := (mkF m 59 #[.val (.ref a), .val (.ref b), .val (.long ((((1 : Int64) * (c0.toInt64)) * (c1.toInt64)) * (c2.toInt64))), .second, .val (.ref b), .val (.int (3 : Int32)), .val (.int (((0 : Int32) + (1 : Int32)) + (1 : Int32))), .val (.int c2)] [(.long ((((1 : Int64) * (c0.toInt64)) * (c1.toInt64)) * (c2.toInt64)))])) rfl (hb hby dc_59) _ k) ?_
  show own_G _ _ _ _ (T43.setTop (mkF m 62 #[.val (.ref a), .val (.ref b), .val (.long ((((1 : Int64) * (c0.toInt64)) * (c1.toInt64)) * (c2.toInt64))), .second, .val (.ref b), .val (.int (3 : Int32)), .val (.int (((0 : Int32) + (1 : Int32)) + (1 : Int32))), .val (.int c2)] [(.long (2147483639 : Int64)), (.long ((((1 : Int64) * (c0.toInt64)) * (c1.toInt64)) * (c2.toInt64)))]))
  refine own_via (fun _ k => XS.lcmp X43.here hx rfl (hb hby dc_62) rfl k) ?_
  show own_G _ _ _ _ (T43.setTop (mkF m 63 #[.val (.ref a), .val (.ref b), .val (.long ((((1 : Int64) * (c0.toInt64)) * (c1.toInt64)) * (c2.toInt64))), .second, .val (.ref b), .val (.int (3 : Int32)), .val (.int (((0 : Int32) + (1 : Int32)) + (1 : Int32))), .val (.int c2)] [(.int (lcmpW ((((1 : Int64) * (c0.toInt64)) * (c1.toInt64)) * (c2.toInt64)) (2147483639 : Int64)))]))
  refine own_via (fun _ k => XS.ifYes X43.here hx rfl (pc0 := 63) (pc' := 76) rfl (hb hby dc_63) rfl ((if0 _ _).trans (flt (fun z => hq2 ((lw_gt _ _).mp z))).2.2.2) (by decide) (by decide) k) ?_
  show own_G _ _ _ _ (T43.setTop (mkF m 76 #[.val (.ref a), .val (.ref b), .val (.long ((((1 : Int64) * (c0.toInt64)) * (c1.toInt64)) * (c2.toInt64))), .second, .val (.ref b), .val (.int (3 : Int32)), .val (.int (((0 : Int32) + (1 : Int32)) + (1 : Int32))), .val (.int c2)] []))
  refine own_via (fun _ k => XS.iinc X43.here hx rfl (hb hby dc_76) rfl (l' := #[.val (.ref a), .val (.ref b), .val (.long ((((1 : Int64) * (c0.toInt64)) * (c1.toInt64)) * (c2.toInt64))), .second, .val (.ref b), .val (.int (3 : Int32)), .val (.int ((((0 : Int32) + (1 : Int32)) + (1 : Int32)) + (1 : Int32))), .val (.int c2)]) rfl k) ?_
  show own_G _ _ _ _ (T43.setTop (mkF m 79 #[.val (.ref a), .val (.ref b), .val (.long ((((1 : Int64) * (c0.toInt64)) * (c1.toInt64)) * (c2.toInt64))), .second, .val (.ref b), .val (.int (3 : Int32)), .val (.int ((((0 : Int32) + (1 : Int32)) + (1 : Int32)) + (1 : Int32))), .val (.int c2)] []))
  refine own_via (fun _ k => XS.goto X43.here hx rfl (pc0 := 79) (pc' := 17) rfl (hb hby dc_79) (by decide) (by decide) k) ?_
  show own_G _ _ _ _ (T43.setTop (mkF m 17 #[.val (.ref a), .val (.ref b), .val (.long ((((1 : Int64) * (c0.toInt64)) * (c1.toInt64)) * (c2.toInt64))), .second, .val (.ref b), .val (.int (3 : Int32)), .val (.int ((((0 : Int32) + (1 : Int32)) + (1 : Int32)) + (1 : Int32))), .val (.int c2)] []))
  refine own_via (fun _ k => XS.iload X43.here hx rfl (hb hby dc_17) rfl k) ?_
  show own_G _ _ _ _ (T43.setTop (mkF m 19 #[.val (.ref a), .val (.ref b), .val (.long ((((1 : Int64) * (c0.toInt64)) * (c1.toInt64)) * (c2.toInt64))), .second, .val (.ref b), .val (.int (3 : Int32)), .val (.int ((((0 : Int32) + (1 : Int32)) + (1 : Int32)) + (1 : Int32))), .val (.int c2)] [(.int ((((0 : Int32) + (1 : Int32)) + (1 : Int32)) + (1 : Int32)))]))
  refine own_via (fun _ k => XS.iload X43.here hx rfl (hb hby dc_19) rfl k) ?_
  show own_G _ _ _ _ (T43.setTop (mkF m 21 #[.val (.ref a), .val (.ref b), .val (.long ((((1 : Int64) * (c0.toInt64)) * (c1.toInt64)) * (c2.toInt64))), .second, .val (.ref b), .val (.int (3 : Int32)), .val (.int ((((0 : Int32) + (1 : Int32)) + (1 : Int32)) + (1 : Int32))), .val (.int c2)] [(.int (3 : Int32)), (.int ((((0 : Int32) + (1 : Int32)) + (1 : Int32)) + (1 : Int32)))]))
  refine own_via (fun _ k => XS.icmpYes X43.here hx rfl (pc0 := 21) (pc' := 82) rfl (hb hby dc_21) rfl (flt (by decide)).2.1 (by decide) (by decide) k) ?_
  show own_G _ _ _ _ (T43.setTop (mkF m 82 #[.val (.ref a), .val (.ref b), .val (.long ((((1 : Int64) * (c0.toInt64)) * (c1.toInt64)) * (c2.toInt64))), .second, .val (.ref b), .val (.int (3 : Int32)), .val (.int ((((0 : Int32) + (1 : Int32)) + (1 : Int32)) + (1 : Int32))), .val (.int c2)] []))
  refine own_via (fun _ k => XS.aloadN X43.here hx rfl (hb hby dc_82) rfl rfl k) ?_
  show own_G _ _ _ _ (T43.setTop (mkF m 83 #[.val (.ref a), .val (.ref b), .val (.long ((((1 : Int64) * (c0.toInt64)) * (c1.toInt64)) * (c2.toInt64))), .second, .val (.ref b), .val (.int (3 : Int32)), .val (.int ((((0 : Int32) + (1 : Int32)) + (1 : Int32)) + (1 : Int32))), .val (.int c2)] [(.ref a)]))
  refine own_via (fun _ k => XS.aloadN X43.here hx rfl (hb hby dc_83) rfl rfl k) ?_
  show own_G _ _ _ _ (T43.setTop (mkF m 84 #[.val (.ref a), .val (.ref b), .val (.long ((((1 : Int64) * (c0.toInt64)) * (c1.toInt64)) * (c2.toInt64))), .second, .val (.ref b), .val (.int (3 : Int32)), .val (.int ((((0 : Int32) + (1 : Int32)) + (1 : Int32)) + (1 : Int32))), .val (.int c2)] [(.ref b), (.ref a)]))
  obtain ⟨T48, h48, X48, e48, E48, V48, EA48, st48⟩ := cloneH X43 hx hZ hown (hw _ (List.mem_of_getElem? (i := 12) rfl)) (hw _ (List.mem_of_getElem? (i := 13) rfl)) (hw _ (List.mem_of_getElem? (i := 17) rfl)) (hw _ (List.mem_of_getElem? (i := 15) rfl)) (hw _ (List.mem_of_getElem? (i := 16) rfl)) (hw _ (List.mem_of_getElem? (i := 18) rfl)) e43 V_b.arh E_b (g := (mkF m 84 #[.val (.ref a), .val (.ref b), .val (.long ((((1 : Int64) * (c0.toInt64)) * (c1.toInt64)) * (c2.toInt64))), .second, .val (.ref b), .val (.int (3 : Int32)), .val (.int ((((0 : Int32) + (1 : Int32)) + (1 : Int32)) + (1 : Int32))), .val (.int c2)] [(.ref b), (.ref a)])) rfl (by rw [hml]; rfl) rfl (hb hby dc_84) (by decide) (W := 1) (cap := 3) (by show 2 * 0 + _ ≤ _; exact Nat.le_of_eq rfl) (by decide) (by decide) (by decide) (by decide)
  obtain ⟨b2, g48⟩ : ∃ z, z = h0.size := ⟨_, rfl⟩
  rw [← g48] at V48 EA48 st48
  have g_b2 : n0 ≤ b2 := Nat.le_trans Z0 (Nat.le_of_eq g48.symm)
  have sz_b2 : h0.size ≤ b2 := Nat.le_trans K.1 (Nat.le_of_eq g48.symm)
  have ne_a_b2 : a ≠ b2 := Nat.ne_of_lt (Nat.lt_of_lt_of_le E_a.lt (Nat.le_of_eq g48.symm))
  have ne_b_b2 : b ≠ b2 := Nat.ne_of_lt (Nat.lt_of_lt_of_le E_b.lt (Nat.le_of_eq g48.symm))
  have E_a := E_a.ext E48
  have F_a_levelCounts := F_a_levelCounts.ext E48
  have F_a_strides := F_a_strides.ext E48
  have F_a_size := F_a_size.ext E48
  have E_b := E_b.ext E48
  have V_b := V_b.ext E48
  have Z0 := Nat.le_trans Z0 E48.1
  have K := K.ext E48
  have E_b2 := EA48
  have V_b2 : Arv Z h48 b2 kk0 .int (3 : Int32) ([(.int c0), (.int c1), (.int c2)] : List Value) (.int (0 : Int32)) := V48
  refine own_via st48 ?_
  show own_G _ _ _ _ (T48.setTop (mkF m 87 #[.val (.ref a), .val (.ref b), .val (.long ((((1 : Int64) * (c0.toInt64)) * (c1.toInt64)) * (c2.toInt64))), .second, .val (.ref b), .val (.int (3 : Int32)), .val (.int ((((0 : Int32) + (1 : Int32)) + (1 : Int32)) + (1 : Int32))), .val (.int c2)] [(.ref b2), (.ref a)]))
  obtain ⟨T49, X49, e49, st49⟩ := castY X48 hx hZ hown (hw _ (List.mem_of_getElem? (i := 19) rfl)) e48 (Ins.self E_b2) (g := (mkF m 87 #[.val (.ref a), .val (.ref b), .val (.long ((((1 : Int64) * (c0.toInt64)) * (c1.toInt64)) * (c2.toInt64))), .second, .val (.ref b), .val (.int (3 : Int32)), .val (.int ((((0 : Int32) + (1 : Int32)) + (1 : Int32)) + (1 : Int32))), .val (.int c2)] [(.ref b2), (.ref a)])) rfl rfl (hb hby dc_87)
  refine own_via st49 ?_
  show own_G _ _ _ _ (T49.setTop (mkF m 90 #[.val (.ref a), .val (.ref b), .val (.long ((((1 : Int64) * (c0.toInt64)) * (c1.toInt64)) * (c2.toInt64))), .second, .val (.ref b), .val (.int (3 : Int32)), .val (.int ((((0 : Int32) + (1 : Int32)) + (1 : Int32)) + (1 : Int32))), .val (.int c2)] [(.ref b2), (.ref a)]))
  obtain ⟨T50, h50, X50, e50, W50, st50⟩ := putF X49 hx hZ hown (host := "") (Or.inl (hw _ (List.mem_of_getElem? (i := 21) rfl))) Via.refl e49 F_a_levelCounts E_a (Or.inr ⟨(hw _ (List.mem_of_getElem? (i := 22) rfl)), rfl, hnm⟩) (hw _ (List.mem_of_getElem? (i := 4) rfl)) (ty := (.array .int)) (by decide) rfl rfl (g := (mkF m 90 #[.val (.ref a), .val (.ref b), .val (.long ((((1 : Int64) * (c0.toInt64)) * (c1.toInt64)) * (c2.toInt64))), .second, .val (.ref b), .val (.int (3 : Int32)), .val (.int ((((0 : Int32) + (1 : Int32)) + (1 : Int32)) + (1 : Int32))), .val (.int c2)] [(.ref b2), (.ref a)])) rfl rfl (hb hby dc_90)
  have F_a_levelCounts := F_a_levelCounts.same W50
  have F_a_strides := F_a_strides.other W50 (Or.inr (slot_ne (Or.inr (hw _ (List.mem_of_getElem? (i := 24) rfl))) (Or.inr (hw _ (List.mem_of_getElem? (i := 22) rfl))) (by decide) (t := (.array .int)) (t' := (.array .int)) (by decide) (by decide)))
  have F_a_size := F_a_size.other W50 (Or.inr (slot_ne (Or.inr (hw _ (List.mem_of_getElem? (i := 26) rfl))) (Or.inr (hw _ (List.mem_of_getElem? (i := 22) rfl))) (by decide) (t := .int) (t' := (.array .int)) (by decide) (by decide)))
  have E_a := E_a.wr W50
  have E_b := E_b.wr W50
  have V_b := V_b.other W50 (Ne.symm hab)
  have E_b2 := E_b2.wr W50
  have V_b2 := V_b2.other W50 (Ne.symm ne_a_b2)
  have Z0 := Nat.le_trans Z0 (Keep.of_wr W50).1
  have K := K.wr W50 (Or.inl (by simp))
  have N50 := Fr.snoc X50 N0 g_a
  refine own_via st50 ?_
  show own_G _ _ _ _ (T50.setTop (mkF m 93 #[.val (.ref a), .val (.ref b), .val (.long ((((1 : Int64) * (c0.toInt64)) * (c1.toInt64)) * (c2.toInt64))), .second, .val (.ref b), .val (.int (3 : Int32)), .val (.int ((((0 : Int32) + (1 : Int32)) + (1 : Int32)) + (1 : Int32))), .val (.int c2)] []))
  refine own_via (fun _ k => XS.aloadN X50.here hx rfl (hb hby dc_93) rfl rfl k) ?_
  show own_G _ _ _ _ (T50.setTop (mkF m 94 #[.val (.ref a), .val (.ref b), .val (.long ((((1 : Int64) * (c0.toInt64)) * (c1.toInt64)) * (c2.toInt64))), .second, .val (.ref b), .val (.int (3 : Int32)), .val (.int ((((0 : Int32) + (1 : Int32)) + (1 : Int32)) + (1 : Int32))), .val (.int c2)] [(.ref a)]))
  refine own_via (fun _ k => XS.aloadN X50.here hx rfl (hb hby dc_94) rfl rfl k) ?_
  show own_G _ _ _ _ (T50.setTop (mkF m 95 #[.val (.ref a), .val (.ref b), .val (.long ((((1 : Int64) * (c0.toInt64)) * (c1.toInt64)) * (c2.toInt64))), .second, .val (.ref b), .val (.int (3 : Int32)), .val (.int ((((0 : Int32) + (1 : Int32)) + (1 : Int32)) + (1 : Int32))), .val (.int c2)] [(.ref b), (.ref a)]))
  obtain ⟨cl51, Ar51, -, Sz51, Nn51, -, -⟩ := id V_b
  refine own_via (fun _ k => X50.arraylength hx (by rw [e50]; exact Ar51.1) (State.isArrayOf_alike hZ.alike Ar51.2.1) (g := (mkF m 95 #[.val (.ref a), .val (.ref b), .val (.long ((((1 : Int64) * (c0.toInt64)) * (c1.toInt64)) * (c2.toInt64))), .second, .val (.ref b), .val (.int (3 : Int32)), .val (.int ((((0 : Int32) + (1 : Int32)) + (1 : Int32)) + (1 : Int32))), .val (.int c2)] [(.ref b), (.ref a)])) rfl rfl (hb hby dc_95) _ k) ?_
  rw [len_of Sz51 Nn51]
  show own_G _ _ _ _ (T50.setTop (mkF m 96 #[.val (.ref a), .val (.ref b), .val (.long ((((1 : Int64) * (c0.toInt64)) * (c1.toInt64)) * (c2.toInt64))), .second, .val (.ref b), .val (.int (3 : Int32)), .val (.int ((((0 : Int32) + (1 : Int32)) + (1 : Int32)) + (1 : Int32))), .val (.int c2)] [(.int (3 : Int32)), (.ref a)]))
  obtain ⟨T52, h52, k_b3, X52, e52, E52, A52, st52⟩ := newP X50 hx hZ (hw _ (List.mem_of_getElem? (i := 2) rfl)) e50 (g := (mkF m 96 #[.val (.ref a), .val (.ref b), .val (.long ((((1 : Int64) * (c0.toInt64)) * (c1.toInt64)) * (c2.toInt64))), .second, .val (.ref b), .val (.int (3 : Int32)), .val (.int ((((0 : Int32) + (1 : Int32)) + (1 : Int32)) + (1 : Int32))), .val (.int c2)] [(.int (3 : Int32)), (.ref a)])) rfl (hb hby dc_96) rfl (by decide) (cap := 3) (by decide) (by decide) (by decide) (by decide)
  obtain ⟨b3, g52⟩ : ∃ z, z = h50.size := ⟨_, rfl⟩
  rw [← g52] at A52 st52
  have g_b3 : n0 ≤ b3 := Nat.le_trans Z0 (Nat.le_of_eq g52.symm)
  have sz_b3 : h0.size ≤ b3 := Nat.le_trans K.1 (Nat.le_of_eq g52.symm)
  have ne_a_b3 : a ≠ b3 := Nat.ne_of_lt (Nat.lt_of_lt_of_le E_a.lt (Nat.le_of_eq g52.symm))
  have ne_b_b3 : b ≠ b3 := Nat.ne_of_lt (Nat.lt_of_lt_of_le E_b.lt (Nat.le_of_eq g52.symm))
  have ne_b2_b3 : b2 ≠ b3 := Nat.ne_of_lt (Nat.lt_of_lt_of_le E_b2.lt (Nat.le_of_eq g52.symm))
  have E_a := E_a.ext E52
  have F_a_levelCounts := F_a_levelCounts.ext E52
  have F_a_strides := F_a_strides.ext E52
  have F_a_size := F_a_size.ext E52
  have E_b := E_b.ext E52
  have V_b := V_b.ext E52
  have E_b2 := E_b2.ext E52
  have V_b2 := V_b2.ext E52
  have Z0 := Nat.le_trans Z0 E52.1
  have K := K.ext E52
  have V_b3 : Arv Z h52 b3 k_b3 .int (3 : Int32) [(.int (0 : Int32)), (.int (0 : Int32)), (.int (0 : Int32))] (.int (0 : Int32)) := (Arv.new A52 (by decide)).pad (pad_rep [] (.int (0 : Int32)) 3)
  refine own_via st52 ?_
  show own_G _ _ _ _ (T52.setTop (mkF m 98 #[.val (.ref a), .val (.ref b), .val (.long ((((1 : Int64) * (c0.toInt64)) * (c1.toInt64)) * (c2.toInt64))), .second, .val (.ref b), .val (.int (3 : Int32)), .val (.int ((((0 : Int32) + (1 : Int32)) + (1 : Int32)) + (1 : Int32))), .val (.int c2)] [(.ref b3), (.ref a)]))
  obtain ⟨T53, h53, X53, e53, W53, st53⟩ := putF X52 hx hZ hown (host := "") (Or.inl (hw _ (List.mem_of_getElem? (i := 23) rfl))) Via.refl e52 F_a_strides E_a (Or.inr ⟨(hw _ (List.mem_of_getElem? (i := 24) rfl)), rfl, hnm⟩) (hw _ (List.mem_of_getElem? (i := 4) rfl)) (ty := (.array .int)) (by decide) rfl rfl (g := (mkF m 98 #[.val (.ref a), .val (.ref b), .val (.long ((((1 : Int64) * (c0.toInt64)) * (c1.toInt64)) * (c2.toInt64))), .second, .val (.ref b), .val (.int (3 : Int32)), .val (.int ((((0 : Int32) + (1 : Int32)) + (1 : Int32)) + (1 : Int32))), .val (.int c2)] [(.ref b3), (.ref a)])) rfl rfl (hb hby dc_98)
  have F_a_strides := F_a_strides.same W53
  have F_a_levelCounts := F_a_levelCounts.other W53 (Or.inr (slot_ne (Or.inr (hw _ (List.mem_of_getElem? (i := 22) rfl))) (Or.inr (hw _ (List.mem_of_getElem? (i := 24) rfl))) (by decide) (t := (.array .int)) (t' := (.array .int)) (by decide) (by decide)))
  have F_a_size := F_a_size.other W53 (Or.inr (slot_ne (Or.inr (hw _ (List.mem_of_getElem? (i := 26) rfl))) (Or.inr (hw _ (List.mem_of_getElem? (i := 24) rfl))) (by decide) (t := .int) (t' := (.array .int)) (by decide) (by decide)))
  have E_a := E_a.wr W53
  have E_b := E_b.wr W53
  have V_b := V_b.other W53 (Ne.symm hab)
  have E_b2 := E_b2.wr W53
  have V_b2 := V_b2.other W53 (Ne.symm ne_a_b2)
  have V_b3 := V_b3.other W53 (Ne.symm ne_a_b3)
  have Z0 := Nat.le_trans Z0 (Keep.of_wr W53).1
  have K := K.wr W53 (Or.inl (by simp))
  have N53 := Fr.snoc X53 N50 g_a
  refine own_via st53 ?_
  show own_G _ _ _ _ (T53.setTop (mkF m 101 #[.val (.ref a), .val (.ref b), .val (.long ((((1 : Int64) * (c0.toInt64)) * (c1.toInt64)) * (c2.toInt64))), .second, .val (.ref b), .val (.int (3 : Int32)), .val (.int ((((0 : Int32) + (1 : Int32)) + (1 : Int32)) + (1 : Int32))), .val (.int c2)] []))
  refine own_via (fun _ k => XS.iconst X53.here hx rfl (hb hby dc_101) k) ?_
  show own_G _ _ _ _ (T53.setTop (mkF m 102 #[.val (.ref a), .val (.ref b), .val (.long ((((1 : Int64) * (c0.toInt64)) * (c1.toInt64)) * (c2.toInt64))), .second, .val (.ref b), .val (.int (3 : Int32)), .val (.int ((((0 : Int32) + (1 : Int32)) + (1 : Int32)) + (1 : Int32))), .val (.int c2)] [(.int (1 : Int32))]))
  refine own_via (fun _ k => XS.istore X53.here hx rfl (hb hby dc_102) rfl (l' := #[.val (.ref a), .val (.ref b), .val (.long ((((1 : Int64) * (c0.toInt64)) * (c1.toInt64)) * (c2.toInt64))), .second, .val (.int (1 : Int32)), .val (.int (3 : Int32)), .val (.int ((((0 : Int32) + (1 : Int32)) + (1 : Int32)) + (1 : Int32))), .val (.int c2)]) rfl k) ?_
  show own_G _ _ _ _ (T53.setTop (mkF m 104 #[.val (.ref a), .val (.ref b), .val (.long ((((1 : Int64) * (c0.toInt64)) * (c1.toInt64)) * (c2.toInt64))), .second, .val (.int (1 : Int32)), .val (.int (3 : Int32)), .val (.int ((((0 : Int32) + (1 : Int32)) + (1 : Int32)) + (1 : Int32))), .val (.int c2)] []))
  refine own_via (fun _ k => XS.aloadN X53.here hx rfl (hb hby dc_104) rfl rfl k) ?_
  show own_G _ _ _ _ (T53.setTop (mkF m 105 #[.val (.ref a), .val (.ref b), .val (.long ((((1 : Int64) * (c0.toInt64)) * (c1.toInt64)) * (c2.toInt64))), .second, .val (.int (1 : Int32)), .val (.int (3 : Int32)), .val (.int ((((0 : Int32) + (1 : Int32)) + (1 : Int32)) + (1 : Int32))), .val (.int c2)] [(.ref b)]))
  obtain ⟨cl54, Ar54, -, Sz54, Nn54, -, -⟩ := id V_b
  refine own_via (fun _ k => X53.arraylength hx (by rw [e53]; exact Ar54.1) (State.isArrayOf_alike hZ.alike Ar54.2.1) (g := (mkF m 105 #[.val (.ref a), .val (.ref b), .val (.long ((((1 : Int64) * (c0.toInt64)) * (c1.toInt64)) * (c2.toInt64))), .second, .val (.int (1 : Int32)), .val (.int (3 : Int32)), .val (.int ((((0 : Int32) + (1 : Int32)) + (1 : Int32)) + (1 : Int32))), .val (.int c2)] [(.ref b)])) rfl rfl (hb hby dc_105) _ k) ?_
  rw [len_of Sz54 Nn54]
  show own_G _ _ _ _ (T53.setTop (mkF m 106 #[.val (.ref a), .val (.ref b), .val (.long ((((1 : Int64) * (c0.toInt64)) * (c1.toInt64)) * (c2.toInt64))), .second, .val (.int (1 : Int32)), .val (.int (3 : Int32)), .val (.int ((((0 : Int32) + (1 : Int32)) + (1 : Int32)) + (1 : Int32))), .val (.int c2)] [(.int (3 : Int32))]))
  refine own_via (fun _ k => XS.iconst X53.here hx rfl (hb hby dc_106) k) ?_
  show own_G _ _ _ _ (T53.setTop (mkF m 107 #[.val (.ref a), .val (.ref b), .val (.long ((((1 : Int64) * (c0.toInt64)) * (c1.toInt64)) * (c2.toInt64))), .second, .val (.int (1 : Int32)), .val (.int (3 : Int32)), .val (.int ((((0 : Int32) + (1 : Int32)) + (1 : Int32)) + (1 : Int32))), .val (.int c2)] [(.int (1 : Int32)), (.int (3 : Int32))]))
  refine own_via (fun _ k => XS.isub X53.here hx rfl (hb hby dc_107) rfl k) ?_
  show own_G _ _ _ _ (T53.setTop (mkF m 108 #[.val (.ref a), .val (.ref b), .val (.long ((((1 : Int64) * (c0.toInt64)) * (c1.toInt64)) * (c2.toInt64))), .second, .val (.int (1 : Int32)), .val (.int (3 : Int32)), .val (.int ((((0 : Int32) + (1 : Int32)) + (1 : Int32)) + (1 : Int32))), .val (.int c2)] [(.int ((3 : Int32) - (1 : Int32)))]))
  refine own_via (fun _ k => XS.istore X53.here hx rfl (hb hby dc_108) rfl (l' := #[.val (.ref a), .val (.ref b), .val (.long ((((1 : Int64) * (c0.toInt64)) * (c1.toInt64)) * (c2.toInt64))), .second, .val (.int (1 : Int32)), .val (.int ((3 : Int32) - (1 : Int32))), .val (.int ((((0 : Int32) + (1 : Int32)) + (1 : Int32)) + (1 : Int32))), .val (.int c2)]) rfl k) ?_
  show own_G _ _ _ _ (T53.setTop (mkF m 110 #[.val (.ref a), .val (.ref b), .val (.long ((((1 : Int64) * (c0.toInt64)) * (c1.toInt64)) * (c2.toInt64))), .second, .val (.int (1 : Int32)), .val (.int ((3 : Int32) - (1 : Int32))), .val (.int ((((0 : Int32) + (1 : Int32)) + (1 : Int32)) + (1 : Int32))), .val (.int c2)] []))
  refine own_via (fun _ k => XS.iload X53.here hx rfl (hb hby dc_110) rfl k) ?_
  show own_G _ _ _ _ (T53.setTop (mkF m 112 #[.val (.ref a), .val (.ref b), .val (.long ((((1 : Int64) * (c0.toInt64)) * (c1.toInt64)) * (c2.toInt64))), .second, .val (.int (1 : Int32)), .val (.int ((3 : Int32) - (1 : Int32))), .val (.int ((((0 : Int32) + (1 : Int32)) + (1 : Int32)) + (1 : Int32))), .val (.int c2)] [(.int ((3 : Int32) - (1 : Int32)))]))
  refine own_via (fun _ k => XS.ifNo X53.here hx rfl (hb hby dc_112) rfl ((if0 _ _).trans (flt (by decide)).1) k) ?_
  show own_G _ _ _ _ (T53.setTop (mkF m 115 #[.val (.ref a), .val (.ref b), .val (.long ((((1 : Int64) * (c0.toInt64)) * (c1.toInt64)) * (c2.toInt64))), .second, .val (.int (1 : Int32)), .val (.int ((3 : Int32) - (1 : Int32))), .val (.int ((((0 : Int32) + (1 : Int32)) + (1 : Int32)) + (1 : Int32))), .val (.int c2)] []))
  refine own_via (fun _ k => XS.aloadN X53.here hx rfl (hb hby dc_115) rfl rfl k) ?_
  show own_G _ _ _ _ (T53.setTop (mkF m 116 #[.val (.ref a), .val (.ref b), .val (.long ((((1 : Int64) * (c0.toInt64)) * (c1.toInt64)) * (c2.toInt64))), .second, .val (.int (1 : Int32)), .val (.int ((3 : Int32) - (1 : Int32))), .val (.int ((((0 : Int32) + (1 : Int32)) + (1 : Int32)) + (1 : Int32))), .val (.int c2)] [(.ref a)]))
  obtain ⟨T55, X55, e55, st55⟩ := getF X53 hx hZ hown (host := "") (Or.inl (hw _ (List.mem_of_getElem? (i := 23) rfl))) Via.refl e53 F_a_strides (g := (mkF m 116 #[.val (.ref a), .val (.ref b), .val (.long ((((1 : Int64) * (c0.toInt64)) * (c1.toInt64)) * (c2.toInt64))), .second, .val (.int (1 : Int32)), .val (.int ((3 : Int32) - (1 : Int32))), .val (.int ((((0 : Int32) + (1 : Int32)) + (1 : Int32)) + (1 : Int32))), .val (.int c2)] [(.ref a)])) rfl rfl (hb hby dc_116)
  refine own_via st55 ?_
  show own_G _ _ _ _ (T55.setTop (mkF m 119 #[.val (.ref a), .val (.ref b), .val (.long ((((1 : Int64) * (c0.toInt64)) * (c1.toInt64)) * (c2.toInt64))), .second, .val (.int (1 : Int32)), .val (.int ((3 : Int32) - (1 : Int32))), .val (.int ((((0 : Int32) + (1 : Int32)) + (1 : Int32)) + (1 : Int32))), .val (.int c2)] [(.ref b3)]))
  refine own_via (fun _ k => XS.iload X55.here hx rfl (hb hby dc_119) rfl k) ?_
  show own_G _ _ _ _ (T55.setTop (mkF m 121 #[.val (.ref a), .val (.ref b), .val (.long ((((1 : Int64) * (c0.toInt64)) * (c1.toInt64)) * (c2.toInt64))), .second, .val (.int (1 : Int32)), .val (.int ((3 : Int32) - (1 : Int32))), .val (.int ((((0 : Int32) + (1 : Int32)) + (1 : Int32)) + (1 : Int32))), .val (.int c2)] [(.int ((3 : Int32) - (1 : Int32))), (.ref b3)]))
  refine own_via (fun _ k => XS.iload X55.here hx rfl (hb hby dc_121) rfl k) ?_
  show own_G _ _ _ _ (T55.setTop (mkF m 123 #[.val (.ref a), .val (.ref b), .val (.long ((((1 : Int64) * (c0.toInt64)) * (c1.toInt64)) * (c2.toInt64))), .second, .val (.int (1 : Int32)), .val (.int ((3 : Int32) - (1 : Int32))), .val (.int ((((0 : Int32) + (1 : Int32)) + (1 : Int32)) + (1 : Int32))), .val (.int c2)] [(.int (1 : Int32)), (.int ((3 : Int32) - (1 : Int32))), (.ref b3)]))
  obtain ⟨cl_b3, Ar_b3, q_b3, S_b3, Nn_b3, H_b3, G_b3⟩ := V_b3
  have hin56 : ¬ (((3 : Int32) - (1 : Int32)) < 0 ∨ cl_b3.slots.size ≤ (((3 : Int32) - (1 : Int32))).toNatClampNeg) := inb_of S_b3 ⟨by decide, by decide⟩
  obtain ⟨T56, h56, X56, e56, W56, st56⟩ := stI X55 hx hZ e55 Ar_b3 (j := ((3 : Int32) - (1 : Int32))) hin56 (g := (mkF m 123 #[.val (.ref a), .val (.ref b), .val (.long ((((1 : Int64) * (c0.toInt64)) * (c1.toInt64)) * (c2.toInt64))), .second, .val (.int (1 : Int32)), .val (.int ((3 : Int32) - (1 : Int32))), .val (.int ((((0 : Int32) + (1 : Int32)) + (1 : Int32)) + (1 : Int32))), .val (.int c2)] [(.int (1 : Int32)), (.int ((3 : Int32) - (1 : Int32))), (.ref b3)])) rfl rfl (hb hby dc_123)
  have V_b3 : Arv Z h56 b3 k_b3 .int (3 : Int32) ([(.int (0 : Int32)), (.int (0 : Int32)), (.int (1 : Int32))] : List Value) (.int (0 : Int32)) := Arv.set Ar_b3 q_b3 S_b3 Nn_b3 H_b3 G_b3 rfl W56 2 rfl (Nat.le_of_ble_eq_true rfl)
  have E_a := E_a.wr W56
  have F_a_levelCounts := F_a_levelCounts.other W56 (Or.inl ne_a_b3)
  have F_a_strides := F_a_strides.other W56 (Or.inl ne_a_b3)
  have F_a_size := F_a_size.other W56 (Or.inl ne_a_b3)
  have E_b := E_b.wr W56
  have V_b := V_b.other W56 ne_b_b3
  have E_b2 := E_b2.wr W56
  have V_b2 := V_b2.other W56 ne_b2_b3
  have Z0 := Nat.le_trans Z0 (Keep.of_wr W56).1
  have K := K.wr W56 (Or.inr sz_b3)
  have N56 := Fr.snoc X56 N53 g_b3
  refine own_via st56 ?_
  show own_G _ _ _ _ (T56.setTop (mkF m 124 #[.val (.ref a), .val (.ref b), .val (.long ((((1 : Int64) * (c0.toInt64)) * (c1.toInt64)) * (c2.toInt64))), .second, .val (.int (1 : Int32)), .val (.int ((3 : Int32) - (1 : Int32))), .val (.int ((((0 : Int32) + (1 : Int32)) + (1 : Int32)) + (1 : Int32))), .val (.int c2)] []))
  refine own_via (fun _ k => XS.iload X56.here hx rfl (hb hby dc_124) rfl k) ?_
  show own_G _ _ _ _ (T56.setTop (mkF m 126 #[.val (.ref a), .val (.ref b), .val (.long ((((1 : Int64) * (c0.toInt64)) * (c1.toInt64)) * (c2.toInt64))), .second, .val (.int (1 : Int32)), .val (.int ((3 : Int32) - (1 : Int32))), .val (.int ((((0 : Int32) + (1 : Int32)) + (1 : Int32)) + (1 : Int32))), .val (.int c2)] [(.int (1 : Int32))]))
  refine own_via (fun _ k => XS.aloadN X56.here hx rfl (hb hby dc_126) rfl rfl k) ?_
  show own_G _ _ _ _ (T56.setTop (mkF m 127 #[.val (.ref a), .val (.ref b), .val (.long ((((1 : Int64) * (c0.toInt64)) * (c1.toInt64)) * (c2.toInt64))), .second, .val (.int (1 : Int32)), .val (.int ((3 : Int32) - (1 : Int32))), .val (.int ((((0 : Int32) + (1 : Int32)) + (1 : Int32)) + (1 : Int32))), .val (.int c2)] [(.ref b), (.int (1 : Int32))]))
  refine own_via (fun _ k => XS.iload X56.here hx rfl (hb hby dc_127) rfl k) ?_
  show own_G _ _ _ _ (T56.setTop (mkF m 129 #[.val (.ref a), .val (.ref b), .val (.long ((((1 : Int64) * (c0.toInt64)) * (c1.toInt64)) * (c2.toInt64))), .second, .val (.int (1 : Int32)), .val (.int ((3 : Int32) - (1 : Int32))), .val (.int ((((0 : Int32) + (1 : Int32)) + (1 : Int32)) + (1 : Int32))), .val (.int c2)] [(.int ((3 : Int32) - (1 : Int32))), (.ref b), (.int (1 : Int32))]))
  obtain ⟨cl57, Ar57, -, Sz57, Nn57, Hh57, -⟩ := id V_b
  have hin57 : ¬ (((3 : Int32) - (1 : Int32)) < 0 ∨ cl57.slots.size ≤ (((3 : Int32) - (1 : Int32))).toNatClampNeg) := inb_of Sz57 ⟨by decide, by decide⟩
  have hat57 : cl57.slots[(((3 : Int32) - (1 : Int32))).toNatClampNeg]? = some (.int c2) := Has.at Hh57 hin57 rfl
  refine own_via (fun _ k => X56.iaload hx (j := ((3 : Int32) - (1 : Int32))) (v := (.int c2)) (by rw [e56]; exact Ar57.1) (State.isArrayOf_alike hZ.alike Ar57.2.1) Ar57.2.2 hin57 hat57 (g := (mkF m 129 #[.val (.ref a), .val (.ref b), .val (.long ((((1 : Int64) * (c0.toInt64)) * (c1.toInt64)) * (c2.toInt64))), .second, .val (.int (1 : Int32)), .val (.int ((3 : Int32) - (1 : Int32))), .val (.int ((((0 : Int32) + (1 : Int32)) + (1 : Int32)) + (1 : Int32))), .val (.int c2)] [(.int ((3 : Int32) - (1 : Int32))), (.ref b), (.int (1 : Int32))])) rfl rfl (hb hby dc_129) _ k) ?_
  show own_G _ _ _ _ (T56.setTop (mkF m 130 #[.val (.ref a), .val (.ref b), .val (.long ((((1 : Int64) * (c0.toInt64)) * (c1.toInt64)) * (c2.toInt64))), .second, .val (.int (1 : Int32)), .val (.int ((3 : Int32) - (1 : Int32))), .val (.int ((((0 : Int32) + (1 : Int32)) + (1 : Int32)) + (1 : Int32))), .val (.int c2)] [(.int c2), (.int (1 : Int32))]))
  refine own_via (fun _ k => XS.imul X56.here hx rfl (hb hby dc_130) rfl k) ?_
  show own_G _ _ _ _ (T56.setTop (mkF m 131 #[.val (.ref a), .val (.ref b), .val (.long ((((1 : Int64) * (c0.toInt64)) * (c1.toInt64)) * (c2.toInt64))), .second, .val (.int (1 : Int32)), .val (.int ((3 : Int32) - (1 : Int32))), .val (.int ((((0 : Int32) + (1 : Int32)) + (1 : Int32)) + (1 : Int32))), .val (.int c2)] [(.int ((1 : Int32) * c2))]))
  refine own_via (fun _ k => XS.istore X56.here hx rfl (hb hby dc_131) rfl (l' := #[.val (.ref a), .val (.ref b), .val (.long ((((1 : Int64) * (c0.toInt64)) * (c1.toInt64)) * (c2.toInt64))), .second, .val (.int ((1 : Int32) * c2)), .val (.int ((3 : Int32) - (1 : Int32))), .val (.int ((((0 : Int32) + (1 : Int32)) + (1 : Int32)) + (1 : Int32))), .val (.int c2)]) rfl k) ?_
  show own_G _ _ _ _ (T56.setTop (mkF m 133 #[.val (.ref a), .val (.ref b), .val (.long ((((1 : Int64) * (c0.toInt64)) * (c1.toInt64)) * (c2.toInt64))), .second, .val (.int ((1 : Int32) * c2)), .val (.int ((3 : Int32) - (1 : Int32))), .val (.int ((((0 : Int32) + (1 : Int32)) + (1 : Int32)) + (1 : Int32))), .val (.int c2)] []))
  refine own_via (fun _ k => XS.iinc X56.here hx rfl (hb hby dc_133) rfl (l' := #[.val (.ref a), .val (.ref b), .val (.long ((((1 : Int64) * (c0.toInt64)) * (c1.toInt64)) * (c2.toInt64))), .second, .val (.int ((1 : Int32) * c2)), .val (.int (((3 : Int32) - (1 : Int32)) + (-1 : Int32))), .val (.int ((((0 : Int32) + (1 : Int32)) + (1 : Int32)) + (1 : Int32))), .val (.int c2)]) rfl k) ?_
  show own_G _ _ _ _ (T56.setTop (mkF m 136 #[.val (.ref a), .val (.ref b), .val (.long ((((1 : Int64) * (c0.toInt64)) * (c1.toInt64)) * (c2.toInt64))), .second, .val (.int ((1 : Int32) * c2)), .val (.int (((3 : Int32) - (1 : Int32)) + (-1 : Int32))), .val (.int ((((0 : Int32) + (1 : Int32)) + (1 : Int32)) + (1 : Int32))), .val (.int c2)] []))
  refine own_via (fun _ k => XS.goto X56.here hx rfl (pc0 := 136) (pc' := 110) rfl (hb hby dc_136) (by decide) (by decide) k) ?_
  show own_G _ _ _ _ (T56.setTop (mkF m 110 #[.val (.ref a), .val (.ref b), .val (.long ((((1 : Int64) * (c0.toInt64)) * (c1.toInt64)) * (c2.toInt64))), .second, .val (.int ((1 : Int32) * c2)), .val (.int (((3 : Int32) - (1 : Int32)) + (-1 : Int32))), .val (.int ((((0 : Int32) + (1 : Int32)) + (1 : Int32)) + (1 : Int32))), .val (.int c2)] []))
  refine own_via (fun _ k => XS.iload X56.here hx rfl (hb hby dc_110) rfl k) ?_
  show own_G _ _ _ _ (T56.setTop (mkF m 112 #[.val (.ref a), .val (.ref b), .val (.long ((((1 : Int64) * (c0.toInt64)) * (c1.toInt64)) * (c2.toInt64))), .second, .val (.int ((1 : Int32) * c2)), .val (.int (((3 : Int32) - (1 : Int32)) + (-1 : Int32))), .val (.int ((((0 : Int32) + (1 : Int32)) + (1 : Int32)) + (1 : Int32))), .val (.int c2)] [(.int (((3 : Int32) - (1 : Int32)) + (-1 : Int32)))]))
  refine own_via (fun _ k => XS.ifNo X56.here hx rfl (hb hby dc_112) rfl ((if0 _ _).trans (flt (by decide)).1) k) ?_
  show own_G _ _ _ _ (T56.setTop (mkF m 115 #[.val (.ref a), .val (.ref b), .val (.long ((((1 : Int64) * (c0.toInt64)) * (c1.toInt64)) * (c2.toInt64))), .second, .val (.int ((1 : Int32) * c2)), .val (.int (((3 : Int32) - (1 : Int32)) + (-1 : Int32))), .val (.int ((((0 : Int32) + (1 : Int32)) + (1 : Int32)) + (1 : Int32))), .val (.int c2)] []))
  refine own_via (fun _ k => XS.aloadN X56.here hx rfl (hb hby dc_115) rfl rfl k) ?_
  show own_G _ _ _ _ (T56.setTop (mkF m 116 #[.val (.ref a), .val (.ref b), .val (.long ((((1 : Int64) * (c0.toInt64)) * (c1.toInt64)) * (c2.toInt64))), .second, .val (.int ((1 : Int32) * c2)), .val (.int (((3 : Int32) - (1 : Int32)) + (-1 : Int32))), .val (.int ((((0 : Int32) + (1 : Int32)) + (1 : Int32)) + (1 : Int32))), .val (.int c2)] [(.ref a)]))
  obtain ⟨T58, X58, e58, st58⟩ := getF X56 hx hZ hown (host := "") (Or.inl (hw _ (List.mem_of_getElem? (i := 23) rfl))) Via.refl e56 F_a_strides (g := (mkF m 116 #[.val (.ref a), .val (.ref b), .val (.long ((((1 : Int64) * (c0.toInt64)) * (c1.toInt64)) * (c2.toInt64))), .second, .val (.int ((1 : Int32) * c2)), .val (.int (((3 : Int32) - (1 : Int32)) + (-1 : Int32))), .val (.int ((((0 : Int32) + (1 : Int32)) + (1 : Int32)) + (1 : Int32))), .val (.int c2)] [(.ref a)])) rfl rfl (hb hby dc_116)
  refine own_via st58 ?_
  show own_G _ _ _ _ (T58.setTop (mkF m 119 #[.val (.ref a), .val (.ref b), .val (.long ((((1 : Int64) * (c0.toInt64)) * (c1.toInt64)) * (c2.toInt64))), .second, .val (.int ((1 : Int32) * c2)), .val (.int (((3 : Int32) - (1 : Int32)) + (-1 : Int32))), .val (.int ((((0 : Int32) + (1 : Int32)) + (1 : Int32)) + (1 : Int32))), .val (.int c2)] [(.ref b3)]))
  refine own_via (fun _ k => XS.iload X58.here hx rfl (hb hby dc_119) rfl k) ?_
  show own_G _ _ _ _ (T58.setTop (mkF m 121 #[.val (.ref a), .val (.ref b), .val (.long ((((1 : Int64) * (c0.toInt64)) * (c1.toInt64)) * (c2.toInt64))), .second, .val (.int ((1 : Int32) * c2)), .val (.int (((3 : Int32) - (1 : Int32)) + (-1 : Int32))), .val (.int ((((0 : Int32) + (1 : Int32)) + (1 : Int32)) + (1 : Int32))), .val (.int c2)] [(.int (((3 : Int32) - (1 : Int32)) + (-1 : Int32))), (.ref b3)]))
  refine own_via (fun _ k => XS.iload X58.here hx rfl (hb hby dc_121) rfl k) ?_
  show own_G _ _ _ _ (T58.setTop (mkF m 123 #[.val (.ref a), .val (.ref b), .val (.long ((((1 : Int64) * (c0.toInt64)) * (c1.toInt64)) * (c2.toInt64))), .second, .val (.int ((1 : Int32) * c2)), .val (.int (((3 : Int32) - (1 : Int32)) + (-1 : Int32))), .val (.int ((((0 : Int32) + (1 : Int32)) + (1 : Int32)) + (1 : Int32))), .val (.int c2)] [(.int ((1 : Int32) * c2)), (.int (((3 : Int32) - (1 : Int32)) + (-1 : Int32))), (.ref b3)]))
  obtain ⟨cl_b3, Ar_b3, q_b3, S_b3, Nn_b3, H_b3, G_b3⟩ := V_b3
  have hin59 : ¬ ((((3 : Int32) - (1 : Int32)) + (-1 : Int32)) < 0 ∨ cl_b3.slots.size ≤ ((((3 : Int32) - (1 : Int32)) + (-1 : Int32))).toNatClampNeg) := inb_of S_b3 ⟨by decide, by decide⟩
  obtain ⟨T59, h59, X59, e59, W59, st59⟩ := stI X58 hx hZ e58 Ar_b3 (j := (((3 : Int32) - (1 : Int32)) + (-1 : Int32))) hin59 (g := (mkF m 123 #[.val (.ref a), .val (.ref b), .val (.long ((((1 : Int64) * (c0.toInt64)) * (c1.toInt64)) * (c2.toInt64))), .second, .val (.int ((1 : Int32) * c2)), .val (.int (((3 : Int32) - (1 : Int32)) + (-1 : Int32))), .val (.int ((((0 : Int32) + (1 : Int32)) + (1 : Int32)) + (1 : Int32))), .val (.int c2)] [(.int ((1 : Int32) * c2)), (.int (((3 : Int32) - (1 : Int32)) + (-1 : Int32))), (.ref b3)])) rfl rfl (hb hby dc_123)
  have V_b3 : Arv Z h59 b3 k_b3 .int (3 : Int32) ([(.int (0 : Int32)), (.int ((1 : Int32) * c2)), (.int (1 : Int32))] : List Value) (.int (0 : Int32)) := Arv.set Ar_b3 q_b3 S_b3 Nn_b3 H_b3 G_b3 rfl W59 1 rfl (Nat.le_of_ble_eq_true rfl)
  have E_a := E_a.wr W59
  have F_a_levelCounts := F_a_levelCounts.other W59 (Or.inl ne_a_b3)
  have F_a_strides := F_a_strides.other W59 (Or.inl ne_a_b3)
  have F_a_size := F_a_size.other W59 (Or.inl ne_a_b3)
  have E_b := E_b.wr W59
  have V_b := V_b.other W59 ne_b_b3
  have E_b2 := E_b2.wr W59
  have V_b2 := V_b2.other W59 ne_b2_b3
  have Z0 := Nat.le_trans Z0 (Keep.of_wr W59).1
  have K := K.wr W59 (Or.inr sz_b3)
  have N59 := Fr.snoc X59 N56 g_b3
  refine own_via st59 ?_
  show own_G _ _ _ _ (T59.setTop (mkF m 124 #[.val (.ref a), .val (.ref b), .val (.long ((((1 : Int64) * (c0.toInt64)) * (c1.toInt64)) * (c2.toInt64))), .second, .val (.int ((1 : Int32) * c2)), .val (.int (((3 : Int32) - (1 : Int32)) + (-1 : Int32))), .val (.int ((((0 : Int32) + (1 : Int32)) + (1 : Int32)) + (1 : Int32))), .val (.int c2)] []))
  refine own_via (fun _ k => XS.iload X59.here hx rfl (hb hby dc_124) rfl k) ?_
  show own_G _ _ _ _ (T59.setTop (mkF m 126 #[.val (.ref a), .val (.ref b), .val (.long ((((1 : Int64) * (c0.toInt64)) * (c1.toInt64)) * (c2.toInt64))), .second, .val (.int ((1 : Int32) * c2)), .val (.int (((3 : Int32) - (1 : Int32)) + (-1 : Int32))), .val (.int ((((0 : Int32) + (1 : Int32)) + (1 : Int32)) + (1 : Int32))), .val (.int c2)] [(.int ((1 : Int32) * c2))]))
  refine own_via (fun _ k => XS.aloadN X59.here hx rfl (hb hby dc_126) rfl rfl k) ?_
  show own_G _ _ _ _ (T59.setTop (mkF m 127 #[.val (.ref a), .val (.ref b), .val (.long ((((1 : Int64) * (c0.toInt64)) * (c1.toInt64)) * (c2.toInt64))), .second, .val (.int ((1 : Int32) * c2)), .val (.int (((3 : Int32) - (1 : Int32)) + (-1 : Int32))), .val (.int ((((0 : Int32) + (1 : Int32)) + (1 : Int32)) + (1 : Int32))), .val (.int c2)] [(.ref b), (.int ((1 : Int32) * c2))]))
  refine own_via (fun _ k => XS.iload X59.here hx rfl (hb hby dc_127) rfl k) ?_
  show own_G _ _ _ _ (T59.setTop (mkF m 129 #[.val (.ref a), .val (.ref b), .val (.long ((((1 : Int64) * (c0.toInt64)) * (c1.toInt64)) * (c2.toInt64))), .second, .val (.int ((1 : Int32) * c2)), .val (.int (((3 : Int32) - (1 : Int32)) + (-1 : Int32))), .val (.int ((((0 : Int32) + (1 : Int32)) + (1 : Int32)) + (1 : Int32))), .val (.int c2)] [(.int (((3 : Int32) - (1 : Int32)) + (-1 : Int32))), (.ref b), (.int ((1 : Int32) * c2))]))
  obtain ⟨cl60, Ar60, -, Sz60, Nn60, Hh60, -⟩ := id V_b
  have hin60 : ¬ ((((3 : Int32) - (1 : Int32)) + (-1 : Int32)) < 0 ∨ cl60.slots.size ≤ ((((3 : Int32) - (1 : Int32)) + (-1 : Int32))).toNatClampNeg) := inb_of Sz60 ⟨by decide, by decide⟩
  have hat60 : cl60.slots[((((3 : Int32) - (1 : Int32)) + (-1 : Int32))).toNatClampNeg]? = some (.int c1) := Has.at Hh60 hin60 rfl
  refine own_via (fun _ k => X59.iaload hx (j := (((3 : Int32) - (1 : Int32)) + (-1 : Int32))) (v := (.int c1)) (by rw [e59]; exact Ar60.1) (State.isArrayOf_alike hZ.alike Ar60.2.1) Ar60.2.2 hin60 hat60 (g := (mkF m 129 #[.val (.ref a), .val (.ref b), .val (.long ((((1 : Int64) * (c0.toInt64)) * (c1.toInt64)) * (c2.toInt64))), .second, .val (.int ((1 : Int32) * c2)), .val (.int (((3 : Int32) - (1 : Int32)) + (-1 : Int32))), .val (.int ((((0 : Int32) + (1 : Int32)) + (1 : Int32)) + (1 : Int32))), .val (.int c2)] [(.int (((3 : Int32) - (1 : Int32)) + (-1 : Int32))), (.ref b), (.int ((1 : Int32) * c2))])) rfl rfl (hb hby dc_129) _ k) ?_
  show own_G _ _ _ _ (T59.setTop (mkF m 130 #[.val (.ref a), .val (.ref b), .val (.long ((((1 : Int64) * (c0.toInt64)) * (c1.toInt64)) * (c2.toInt64))), .second, .val (.int ((1 : Int32) * c2)), .val (.int (((3 : Int32) - (1 : Int32)) + (-1 : Int32))), .val (.int ((((0 : Int32) + (1 : Int32)) + (1 : Int32)) + (1 : Int32))), .val (.int c2)] [(.int c1), (.int ((1 : Int32) * c2))]))
  refine own_via (fun _ k => XS.imul X59.here hx rfl (hb hby dc_130) rfl k) ?_
  show own_G _ _ _ _ (T59.setTop (mkF m 131 #[.val (.ref a), .val (.ref b), .val (.long ((((1 : Int64) * (c0.toInt64)) * (c1.toInt64)) * (c2.toInt64))), .second, .val (.int ((1 : Int32) * c2)), .val (.int (((3 : Int32) - (1 : Int32)) + (-1 : Int32))), .val (.int ((((0 : Int32) + (1 : Int32)) + (1 : Int32)) + (1 : Int32))), .val (.int c2)] [(.int (((1 : Int32) * c2) * c1))]))
  refine own_via (fun _ k => XS.istore X59.here hx rfl (hb hby dc_131) rfl (l' := #[.val (.ref a), .val (.ref b), .val (.long ((((1 : Int64) * (c0.toInt64)) * (c1.toInt64)) * (c2.toInt64))), .second, .val (.int (((1 : Int32) * c2) * c1)), .val (.int (((3 : Int32) - (1 : Int32)) + (-1 : Int32))), .val (.int ((((0 : Int32) + (1 : Int32)) + (1 : Int32)) + (1 : Int32))), .val (.int c2)]) rfl k) ?_
  show own_G _ _ _ _ (T59.setTop (mkF m 133 #[.val (.ref a), .val (.ref b), .val (.long ((((1 : Int64) * (c0.toInt64)) * (c1.toInt64)) * (c2.toInt64))), .second, .val (.int (((1 : Int32) * c2) * c1)), .val (.int (((3 : Int32) - (1 : Int32)) + (-1 : Int32))), .val (.int ((((0 : Int32) + (1 : Int32)) + (1 : Int32)) + (1 : Int32))), .val (.int c2)] []))
  refine own_via (fun _ k => XS.iinc X59.here hx rfl (hb hby dc_133) rfl (l' := #[.val (.ref a), .val (.ref b), .val (.long ((((1 : Int64) * (c0.toInt64)) * (c1.toInt64)) * (c2.toInt64))), .second, .val (.int (((1 : Int32) * c2) * c1)), .val (.int ((((3 : Int32) - (1 : Int32)) + (-1 : Int32)) + (-1 : Int32))), .val (.int ((((0 : Int32) + (1 : Int32)) + (1 : Int32)) + (1 : Int32))), .val (.int c2)]) rfl k) ?_
  show own_G _ _ _ _ (T59.setTop (mkF m 136 #[.val (.ref a), .val (.ref b), .val (.long ((((1 : Int64) * (c0.toInt64)) * (c1.toInt64)) * (c2.toInt64))), .second, .val (.int (((1 : Int32) * c2) * c1)), .val (.int ((((3 : Int32) - (1 : Int32)) + (-1 : Int32)) + (-1 : Int32))), .val (.int ((((0 : Int32) + (1 : Int32)) + (1 : Int32)) + (1 : Int32))), .val (.int c2)] []))
  refine own_via (fun _ k => XS.goto X59.here hx rfl (pc0 := 136) (pc' := 110) rfl (hb hby dc_136) (by decide) (by decide) k) ?_
  show own_G _ _ _ _ (T59.setTop (mkF m 110 #[.val (.ref a), .val (.ref b), .val (.long ((((1 : Int64) * (c0.toInt64)) * (c1.toInt64)) * (c2.toInt64))), .second, .val (.int (((1 : Int32) * c2) * c1)), .val (.int ((((3 : Int32) - (1 : Int32)) + (-1 : Int32)) + (-1 : Int32))), .val (.int ((((0 : Int32) + (1 : Int32)) + (1 : Int32)) + (1 : Int32))), .val (.int c2)] []))
  refine own_via (fun _ k => XS.iload X59.here hx rfl (hb hby dc_110) rfl k) ?_
  show own_G _ _ _ _ (T59.setTop (mkF m 112 #[.val (.ref a), .val (.ref b), .val (.long ((((1 : Int64) * (c0.toInt64)) * (c1.toInt64)) * (c2.toInt64))), .second, .val (.int (((1 : Int32) * c2) * c1)), .val (.int ((((3 : Int32) - (1 : Int32)) + (-1 : Int32)) + (-1 : Int32))), .val (.int ((((0 : Int32) + (1 : Int32)) + (1 : Int32)) + (1 : Int32))), .val (.int c2)] [(.int ((((3 : Int32) - (1 : Int32)) + (-1 : Int32)) + (-1 : Int32)))]))
  refine own_via (fun _ k => XS.ifNo X59.here hx rfl (hb hby dc_112) rfl ((if0 _ _).trans (flt (by decide)).1) k) ?_
  show own_G _ _ _ _ (T59.setTop (mkF m 115 #[.val (.ref a), .val (.ref b), .val (.long ((((1 : Int64) * (c0.toInt64)) * (c1.toInt64)) * (c2.toInt64))), .second, .val (.int (((1 : Int32) * c2) * c1)), .val (.int ((((3 : Int32) - (1 : Int32)) + (-1 : Int32)) + (-1 : Int32))), .val (.int ((((0 : Int32) + (1 : Int32)) + (1 : Int32)) + (1 : Int32))), .val (.int c2)] []))
  refine own_via (fun _ k => XS.aloadN X59.here hx rfl (hb hby dc_115) rfl rfl k) ?_
  show own_G _ _ _ _ (T59.setTop (mkF m 116 #[.val (.ref a), .val (.ref b), .val (.long ((((1 : Int64) * (c0.toInt64)) * (c1.toInt64)) * (c2.toInt64))), .second, .val (.int (((1 : Int32) * c2) * c1)), .val (.int ((((3 : Int32) - (1 : Int32)) + (-1 : Int32)) + (-1 : Int32))), .val (.int ((((0 : Int32) + (1 : Int32)) + (1 : Int32)) + (1 : Int32))), .val (.int c2)] [(.ref a)]))
  obtain ⟨T61, X61, e61, st61⟩ := getF X59 hx hZ hown (host := "") (Or.inl (hw _ (List.mem_of_getElem? (i := 23) rfl))) Via.refl e59 F_a_strides (g := (mkF m 116 #[.val (.ref a), .val (.ref b), .val (.long ((((1 : Int64) * (c0.toInt64)) * (c1.toInt64)) * (c2.toInt64))), .second, .val (.int (((1 : Int32) * c2) * c1)), .val (.int ((((3 : Int32) - (1 : Int32)) + (-1 : Int32)) + (-1 : Int32))), .val (.int ((((0 : Int32) + (1 : Int32)) + (1 : Int32)) + (1 : Int32))), .val (.int c2)] [(.ref a)])) rfl rfl (hb hby dc_116)
  refine own_via st61 ?_
  show own_G _ _ _ _ (T61.setTop (mkF m 119 #[.val (.ref a), .val (.ref b), .val (.long ((((1 : Int64) * (c0.toInt64)) * (c1.toInt64)) * (c2.toInt64))), .second, .val (.int (((1 : Int32) * c2) * c1)), .val (.int ((((3 : Int32) - (1 : Int32)) + (-1 : Int32)) + (-1 : Int32))), .val (.int ((((0 : Int32) + (1 : Int32)) + (1 : Int32)) + (1 : Int32))), .val (.int c2)] [(.ref b3)]))
  refine own_via (fun _ k => XS.iload X61.here hx rfl (hb hby dc_119) rfl k) ?_
  show own_G _ _ _ _ (T61.setTop (mkF m 121 #[.val (.ref a), .val (.ref b), .val (.long ((((1 : Int64) * (c0.toInt64)) * (c1.toInt64)) * (c2.toInt64))), .second, .val (.int (((1 : Int32) * c2) * c1)), .val (.int ((((3 : Int32) - (1 : Int32)) + (-1 : Int32)) + (-1 : Int32))), .val (.int ((((0 : Int32) + (1 : Int32)) + (1 : Int32)) + (1 : Int32))), .val (.int c2)] [(.int ((((3 : Int32) - (1 : Int32)) + (-1 : Int32)) + (-1 : Int32))), (.ref b3)]))
  refine own_via (fun _ k => XS.iload X61.here hx rfl (hb hby dc_121) rfl k) ?_
  show own_G _ _ _ _ (T61.setTop (mkF m 123 #[.val (.ref a), .val (.ref b), .val (.long ((((1 : Int64) * (c0.toInt64)) * (c1.toInt64)) * (c2.toInt64))), .second, .val (.int (((1 : Int32) * c2) * c1)), .val (.int ((((3 : Int32) - (1 : Int32)) + (-1 : Int32)) + (-1 : Int32))), .val (.int ((((0 : Int32) + (1 : Int32)) + (1 : Int32)) + (1 : Int32))), .val (.int c2)] [(.int (((1 : Int32) * c2) * c1)), (.int ((((3 : Int32) - (1 : Int32)) + (-1 : Int32)) + (-1 : Int32))), (.ref b3)]))
  obtain ⟨cl_b3, Ar_b3, q_b3, S_b3, Nn_b3, H_b3, G_b3⟩ := V_b3
  have hin62 : ¬ (((((3 : Int32) - (1 : Int32)) + (-1 : Int32)) + (-1 : Int32)) < 0 ∨ cl_b3.slots.size ≤ (((((3 : Int32) - (1 : Int32)) + (-1 : Int32)) + (-1 : Int32))).toNatClampNeg) := inb_of S_b3 ⟨by decide, by decide⟩
  obtain ⟨T62, h62, X62, e62, W62, st62⟩ := stI X61 hx hZ e61 Ar_b3 (j := ((((3 : Int32) - (1 : Int32)) + (-1 : Int32)) + (-1 : Int32))) hin62 (g := (mkF m 123 #[.val (.ref a), .val (.ref b), .val (.long ((((1 : Int64) * (c0.toInt64)) * (c1.toInt64)) * (c2.toInt64))), .second, .val (.int (((1 : Int32) * c2) * c1)), .val (.int ((((3 : Int32) - (1 : Int32)) + (-1 : Int32)) + (-1 : Int32))), .val (.int ((((0 : Int32) + (1 : Int32)) + (1 : Int32)) + (1 : Int32))), .val (.int c2)] [(.int (((1 : Int32) * c2) * c1)), (.int ((((3 : Int32) - (1 : Int32)) + (-1 : Int32)) + (-1 : Int32))), (.ref b3)])) rfl rfl (hb hby dc_123)
  have V_b3 : Arv Z h62 b3 k_b3 .int (3 : Int32) ([(.int (((1 : Int32) * c2) * c1)), (.int ((1 : Int32) * c2)), (.int (1 : Int32))] : List Value) (.int (0 : Int32)) := Arv.set Ar_b3 q_b3 S_b3 Nn_b3 H_b3 G_b3 rfl W62 0 rfl (Nat.le_of_ble_eq_true rfl)
  have E_a := E_a.wr W62
  have F_a_levelCounts := F_a_levelCounts.other W62 (Or.inl ne_a_b3)
  have F_a_strides := F_a_strides.other W62 (Or.inl ne_a_b3)
  have F_a_size := F_a_size.other W62 (Or.inl ne_a_b3)
  have E_b := E_b.wr W62
  have V_b := V_b.other W62 ne_b_b3
  have E_b2 := E_b2.wr W62
  have V_b2 := V_b2.other W62 ne_b2_b3
  have Z0 := Nat.le_trans Z0 (Keep.of_wr W62).1
  have K := K.wr W62 (Or.inr sz_b3)
  have N62 := Fr.snoc X62 N59 g_b3
  refine own_via st62 ?_
  show own_G _ _ _ _ (T62.setTop (mkF m 124 #[.val (.ref a), .val (.ref b), .val (.long ((((1 : Int64) * (c0.toInt64)) * (c1.toInt64)) * (c2.toInt64))), .second, .val (.int (((1 : Int32) * c2) * c1)), .val (.int ((((3 : Int32) - (1 : Int32)) + (-1 : Int32)) + (-1 : Int32))), .val (.int ((((0 : Int32) + (1 : Int32)) + (1 : Int32)) + (1 : Int32))), .val (.int c2)] []))
  refine own_via (fun _ k => XS.iload X62.here hx rfl (hb hby dc_124) rfl k) ?_
  show own_G _ _ _ _ (T62.setTop (mkF m 126 #[.val (.ref a), .val (.ref b), .val (.long ((((1 : Int64) * (c0.toInt64)) * (c1.toInt64)) * (c2.toInt64))), .second, .val (.int (((1 : Int32) * c2) * c1)), .val (.int ((((3 : Int32) - (1 : Int32)) + (-1 : Int32)) + (-1 : Int32))), .val (.int ((((0 : Int32) + (1 : Int32)) + (1 : Int32)) + (1 : Int32))), .val (.int c2)] [(.int (((1 : Int32) * c2) * c1))]))
  refine own_via (fun _ k => XS.aloadN X62.here hx rfl (hb hby dc_126) rfl rfl k) ?_
  show own_G _ _ _ _ (T62.setTop (mkF m 127 #[.val (.ref a), .val (.ref b), .val (.long ((((1 : Int64) * (c0.toInt64)) * (c1.toInt64)) * (c2.toInt64))), .second, .val (.int (((1 : Int32) * c2) * c1)), .val (.int ((((3 : Int32) - (1 : Int32)) + (-1 : Int32)) + (-1 : Int32))), .val (.int ((((0 : Int32) + (1 : Int32)) + (1 : Int32)) + (1 : Int32))), .val (.int c2)] [(.ref b), (.int (((1 : Int32) * c2) * c1))]))
  refine own_via (fun _ k => XS.iload X62.here hx rfl (hb hby dc_127) rfl k) ?_
  show own_G _ _ _ _ (T62.setTop (mkF m 129 #[.val (.ref a), .val (.ref b), .val (.long ((((1 : Int64) * (c0.toInt64)) * (c1.toInt64)) * (c2.toInt64))), .second, .val (.int (((1 : Int32) * c2) * c1)), .val (.int ((((3 : Int32) - (1 : Int32)) + (-1 : Int32)) + (-1 : Int32))), .val (.int ((((0 : Int32) + (1 : Int32)) + (1 : Int32)) + (1 : Int32))), .val (.int c2)] [(.int ((((3 : Int32) - (1 : Int32)) + (-1 : Int32)) + (-1 : Int32))), (.ref b), (.int (((1 : Int32) * c2) * c1))]))
  obtain ⟨cl63, Ar63, -, Sz63, Nn63, Hh63, -⟩ := id V_b
  have hin63 : ¬ (((((3 : Int32) - (1 : Int32)) + (-1 : Int32)) + (-1 : Int32)) < 0 ∨ cl63.slots.size ≤ (((((3 : Int32) - (1 : Int32)) + (-1 : Int32)) + (-1 : Int32))).toNatClampNeg) := inb_of Sz63 ⟨by decide, by decide⟩
  have hat63 : cl63.slots[(((((3 : Int32) - (1 : Int32)) + (-1 : Int32)) + (-1 : Int32))).toNatClampNeg]? = some (.int c0) := Has.at Hh63 hin63 rfl
  refine own_via (fun _ k => X62.iaload hx (j := ((((3 : Int32) - (1 : Int32)) + (-1 : Int32)) + (-1 : Int32))) (v := (.int c0)) (by rw [e62]; exact Ar63.1) (State.isArrayOf_alike hZ.alike Ar63.2.1) Ar63.2.2 hin63 hat63 (g := (mkF m 129 #[.val (.ref a), .val (.ref b), .val (.long ((((1 : Int64) * (c0.toInt64)) * (c1.toInt64)) * (c2.toInt64))), .second, .val (.int (((1 : Int32) * c2) * c1)), .val (.int ((((3 : Int32) - (1 : Int32)) + (-1 : Int32)) + (-1 : Int32))), .val (.int ((((0 : Int32) + (1 : Int32)) + (1 : Int32)) + (1 : Int32))), .val (.int c2)] [(.int ((((3 : Int32) - (1 : Int32)) + (-1 : Int32)) + (-1 : Int32))), (.ref b), (.int (((1 : Int32) * c2) * c1))])) rfl rfl (hb hby dc_129) _ k) ?_
  show own_G _ _ _ _ (T62.setTop (mkF m 130 #[.val (.ref a), .val (.ref b), .val (.long ((((1 : Int64) * (c0.toInt64)) * (c1.toInt64)) * (c2.toInt64))), .second, .val (.int (((1 : Int32) * c2) * c1)), .val (.int ((((3 : Int32) - (1 : Int32)) + (-1 : Int32)) + (-1 : Int32))), .val (.int ((((0 : Int32) + (1 : Int32)) + (1 : Int32)) + (1 : Int32))), .val (.int c2)] [(.int c0), (.int (((1 : Int32) * c2) * c1))]))
  refine own_via (fun _ k => XS.imul X62.here hx rfl (hb hby dc_130) rfl k) ?_
  show own_G _ _ _ _ (T62.setTop (mkF m 131 #[.val (.ref a), .val (.ref b), .val (.long ((((1 : Int64) * (c0.toInt64)) * (c1.toInt64)) * (c2.toInt64))), .second, .val (.int (((1 : Int32) * c2) * c1)), .val (.int ((((3 : Int32) - (1 : Int32)) + (-1 : Int32)) + (-1 : Int32))), .val (.int ((((0 : Int32) + (1 : Int32)) + (1 : Int32)) + (1 : Int32))), .val (.int c2)] [(.int ((((1 : Int32) * c2) * c1) * c0))]))
  refine own_via (fun _ k => XS.istore X62.here hx rfl (hb hby dc_131) rfl (l' := #[.val (.ref a), .val (.ref b), .val (.long ((((1 : Int64) * (c0.toInt64)) * (c1.toInt64)) * (c2.toInt64))), .second, .val (.int ((((1 : Int32) * c2) * c1) * c0)), .val (.int ((((3 : Int32) - (1 : Int32)) + (-1 : Int32)) + (-1 : Int32))), .val (.int ((((0 : Int32) + (1 : Int32)) + (1 : Int32)) + (1 : Int32))), .val (.int c2)]) rfl k) ?_
  show own_G _ _ _ _ (T62.setTop (mkF m 133 #[.val (.ref a), .val (.ref b), .val (.long ((((1 : Int64) * (c0.toInt64)) * (c1.toInt64)) * (c2.toInt64))), .second, .val (.int ((((1 : Int32) * c2) * c1) * c0)), .val (.int ((((3 : Int32) - (1 : Int32)) + (-1 : Int32)) + (-1 : Int32))), .val (.int ((((0 : Int32) + (1 : Int32)) + (1 : Int32)) + (1 : Int32))), .val (.int c2)] []))
  refine own_via (fun _ k => XS.iinc X62.here hx rfl (hb hby dc_133) rfl (l' := #[.val (.ref a), .val (.ref b), .val (.long ((((1 : Int64) * (c0.toInt64)) * (c1.toInt64)) * (c2.toInt64))), .second, .val (.int ((((1 : Int32) * c2) * c1) * c0)), .val (.int (((((3 : Int32) - (1 : Int32)) + (-1 : Int32)) + (-1 : Int32)) + (-1 : Int32))), .val (.int ((((0 : Int32) + (1 : Int32)) + (1 : Int32)) + (1 : Int32))), .val (.int c2)]) rfl k) ?_
  show own_G _ _ _ _ (T62.setTop (mkF m 136 #[.val (.ref a), .val (.ref b), .val (.long ((((1 : Int64) * (c0.toInt64)) * (c1.toInt64)) * (c2.toInt64))), .second, .val (.int ((((1 : Int32) * c2) * c1) * c0)), .val (.int (((((3 : Int32) - (1 : Int32)) + (-1 : Int32)) + (-1 : Int32)) + (-1 : Int32))), .val (.int ((((0 : Int32) + (1 : Int32)) + (1 : Int32)) + (1 : Int32))), .val (.int c2)] []))
  refine own_via (fun _ k => XS.goto X62.here hx rfl (pc0 := 136) (pc' := 110) rfl (hb hby dc_136) (by decide) (by decide) k) ?_
  show own_G _ _ _ _ (T62.setTop (mkF m 110 #[.val (.ref a), .val (.ref b), .val (.long ((((1 : Int64) * (c0.toInt64)) * (c1.toInt64)) * (c2.toInt64))), .second, .val (.int ((((1 : Int32) * c2) * c1) * c0)), .val (.int (((((3 : Int32) - (1 : Int32)) + (-1 : Int32)) + (-1 : Int32)) + (-1 : Int32))), .val (.int ((((0 : Int32) + (1 : Int32)) + (1 : Int32)) + (1 : Int32))), .val (.int c2)] []))
  refine own_via (fun _ k => XS.iload X62.here hx rfl (hb hby dc_110) rfl k) ?_
  show own_G _ _ _ _ (T62.setTop (mkF m 112 #[.val (.ref a), .val (.ref b), .val (.long ((((1 : Int64) * (c0.toInt64)) * (c1.toInt64)) * (c2.toInt64))), .second, .val (.int ((((1 : Int32) * c2) * c1) * c0)), .val (.int (((((3 : Int32) - (1 : Int32)) + (-1 : Int32)) + (-1 : Int32)) + (-1 : Int32))), .val (.int ((((0 : Int32) + (1 : Int32)) + (1 : Int32)) + (1 : Int32))), .val (.int c2)] [(.int (((((3 : Int32) - (1 : Int32)) + (-1 : Int32)) + (-1 : Int32)) + (-1 : Int32)))]))
  refine own_via (fun _ k => XS.ifYes X62.here hx rfl (pc0 := 112) (pc' := 139) rfl (hb hby dc_112) rfl ((if0 _ _).trans (tlt (by decide)).1) (by decide) (by decide) k) ?_
  show own_G _ _ _ _ (T62.setTop (mkF m 139 #[.val (.ref a), .val (.ref b), .val (.long ((((1 : Int64) * (c0.toInt64)) * (c1.toInt64)) * (c2.toInt64))), .second, .val (.int ((((1 : Int32) * c2) * c1) * c0)), .val (.int (((((3 : Int32) - (1 : Int32)) + (-1 : Int32)) + (-1 : Int32)) + (-1 : Int32))), .val (.int ((((0 : Int32) + (1 : Int32)) + (1 : Int32)) + (1 : Int32))), .val (.int c2)] []))
  refine own_via (fun _ k => XS.aloadN X62.here hx rfl (hb hby dc_139) rfl rfl k) ?_
  show own_G _ _ _ _ (T62.setTop (mkF m 140 #[.val (.ref a), .val (.ref b), .val (.long ((((1 : Int64) * (c0.toInt64)) * (c1.toInt64)) * (c2.toInt64))), .second, .val (.int ((((1 : Int32) * c2) * c1) * c0)), .val (.int (((((3 : Int32) - (1 : Int32)) + (-1 : Int32)) + (-1 : Int32)) + (-1 : Int32))), .val (.int ((((0 : Int32) + (1 : Int32)) + (1 : Int32)) + (1 : Int32))), .val (.int c2)] [(.ref a)]))
  refine own_via (fun _ k => XS.lloadN X62.here hx rfl (hb hby dc_140) rfl k) ?_
  show own_G _ _ _ _ (T62.setTop (mkF m 141 #[.val (.ref a), .val (.ref b), .val (.long ((((1 : Int64) * (c0.toInt64)) * (c1.toInt64)) * (c2.toInt64))), .second, .val (.int ((((1 : Int32) * c2) * c1) * c0)), .val (.int (((((3 : Int32) - (1 : Int32)) + (-1 : Int32)) + (-1 : Int32)) + (-1 : Int32))), .val (.int ((((0 : Int32) + (1 : Int32)) + (1 : Int32)) + (1 : Int32))), .val (.int c2)] [(.long ((((1 : Int64) * (c0.toInt64)) * (c1.toInt64)) * (c2.toInt64))), (.ref a)]))
  refine own_via (fun _ k => XS.l2i X62.here hx rfl (hb hby dc_141) rfl k) ?_
  show own_G _ _ _ _ (T62.setTop (mkF m 142 #[.val (.ref a), .val (.ref b), .val (.long ((((1 : Int64) * (c0.toInt64)) * (c1.toInt64)) * (c2.toInt64))), .second, .val (.int ((((1 : Int32) * c2) * c1) * c0)), .val (.int (((((3 : Int32) - (1 : Int32)) + (-1 : Int32)) + (-1 : Int32)) + (-1 : Int32))), .val (.int ((((0 : Int32) + (1 : Int32)) + (1 : Int32)) + (1 : Int32))), .val (.int c2)] [(.int (((((1 : Int64) * (c0.toInt64)) * (c1.toInt64)) * (c2.toInt64)).toInt32)), (.ref a)]))
  obtain ⟨T64, h64, X64, e64, W64, st64⟩ := putF X62 hx hZ hown (host := "") (Or.inl (hw _ (List.mem_of_getElem? (i := 25) rfl))) Via.refl e62 F_a_size E_a (Or.inr ⟨(hw _ (List.mem_of_getElem? (i := 26) rfl)), rfl, hnm⟩) (hw _ (List.mem_of_getElem? (i := 4) rfl)) (ty := .int) (by decide) rfl rfl (g := (mkF m 142 #[.val (.ref a), .val (.ref b), .val (.long ((((1 : Int64) * (c0.toInt64)) * (c1.toInt64)) * (c2.toInt64))), .second, .val (.int ((((1 : Int32) * c2) * c1) * c0)), .val (.int (((((3 : Int32) - (1 : Int32)) + (-1 : Int32)) + (-1 : Int32)) + (-1 : Int32))), .val (.int ((((0 : Int32) + (1 : Int32)) + (1 : Int32)) + (1 : Int32))), .val (.int c2)] [(.int (((((1 : Int64) * (c0.toInt64)) * (c1.toInt64)) * (c2.toInt64)).toInt32)), (.ref a)])) rfl rfl (hb hby dc_142)
  have F_a_size := F_a_size.same W64
  have F_a_levelCounts := F_a_levelCounts.other W64 (Or.inr (slot_ne (Or.inr (hw _ (List.mem_of_getElem? (i := 22) rfl))) (Or.inr (hw _ (List.mem_of_getElem? (i := 26) rfl))) (by decide) (t := (.array .int)) (t' := .int) (by decide) (by decide)))
  have F_a_strides := F_a_strides.other W64 (Or.inr (slot_ne (Or.inr (hw _ (List.mem_of_getElem? (i := 24) rfl))) (Or.inr (hw _ (List.mem_of_getElem? (i := 26) rfl))) (by decide) (t := (.array .int)) (t' := .int) (by decide) (by decide)))
  have E_a := E_a.wr W64
  have E_b := E_b.wr W64
  have V_b := V_b.other W64 (Ne.symm hab)
  have E_b2 := E_b2.wr W64
  have V_b2 := V_b2.other W64 (Ne.symm ne_a_b2)
  have V_b3 := V_b3.other W64 (Ne.symm ne_a_b3)
  have Z0 := Nat.le_trans Z0 (Keep.of_wr W64).1
  have K := K.wr W64 (Or.inl (by simp))
  have N64 := Fr.snoc X64 N62 g_a
  refine own_via st64 ?_
  show own_G _ _ _ _ (T64.setTop (mkF m 145 #[.val (.ref a), .val (.ref b), .val (.long ((((1 : Int64) * (c0.toInt64)) * (c1.toInt64)) * (c2.toInt64))), .second, .val (.int ((((1 : Int32) * c2) * c1) * c0)), .val (.int (((((3 : Int32) - (1 : Int32)) + (-1 : Int32)) + (-1 : Int32)) + (-1 : Int32))), .val (.int ((((0 : Int32) + (1 : Int32)) + (1 : Int32)) + (1 : Int32))), .val (.int c2)] []))
  obtain ⟨fs, hr, hrun, hended, hW, hsame⟩ := X64.leave (v := none) (fun _ => rfl)
  refine ⟨_, _, ?_, hrun, hended, _, _, rfl, ?_, ⟨_, rfl⟩, hW, hsame.mono (by decide) (by decide)⟩
  · exact X64.returnOut hx Bd.returns (hb hby dc_145) hr
  · show Qc3 Z a b kk0 c0 c1 c2 h0 n0 _ T64.heap _
    rw [e64]
    exact ⟨rfl, N64, K, E_a, b2, b3, _, g_b2, g_b3, F_a_levelCounts, V_b2, F_a_strides, V_b3, F_a_size⟩
theorem dt_0 : decode prog_16_method_6_code 0 = .ok (.aload_n 0, 1) := by decide +kernel
theorem dt_1 : decode prog_16_method_6_code 1 = .ok (.getfield 30, 3) := by decide +kernel
theorem dt_4 : decode prog_16_method_6_code 4 = .ok (.arraylength, 1) := by decide +kernel
theorem dt_5 : decode prog_16_method_6_code 5 = .ok (.newarray .int, 2) := by decide +kernel
theorem dt_7 : decode prog_16_method_6_code 7 = .ok (.astore_n 1, 1) := by decide +kernel
theorem dt_8 : decode prog_16_method_6_code 8 = .ok (.iconst 0, 1) := by decide +kernel
theorem dt_9 : decode prog_16_method_6_code 9 = .ok (.istore_n 2, 1) := by decide +kernel
theorem dt_10 : decode prog_16_method_6_code 10 = .ok (.iload_n 2, 1) := by decide +kernel
theorem dt_11 : decode prog_16_method_6_code 11 = .ok (.aload_n 1, 1) := by decide +kernel
theorem dt_12 : decode prog_16_method_6_code 12 = .ok (.arraylength, 1) := by decide +kernel
theorem dt_13 : decode prog_16_method_6_code 13 = .ok (.if_icmp .ge 20, 3) := by decide +kernel
theorem dt_16 : decode prog_16_method_6_code 16 = .ok (.aload_n 1, 1) := by decide +kernel
theorem dt_17 : decode prog_16_method_6_code 17 = .ok (.iload_n 2, 1) := by decide +kernel
theorem dt_18 : decode prog_16_method_6_code 18 = .ok (.aload_n 0, 1) := by decide +kernel
theorem dt_19 : decode prog_16_method_6_code 19 = .ok (.getfield 30, 3) := by decide +kernel
theorem dt_22 : decode prog_16_method_6_code 22 = .ok (.iload_n 2, 1) := by decide +kernel
theorem dt_23 : decode prog_16_method_6_code 23 = .ok (.iaload, 1) := by decide +kernel
theorem dt_24 : decode prog_16_method_6_code 24 = .ok (.iconst 1, 1) := by decide +kernel
theorem dt_25 : decode prog_16_method_6_code 25 = .ok (.isub, 1) := by decide +kernel
theorem dt_26 : decode prog_16_method_6_code 26 = .ok (.iastore, 1) := by decide +kernel
theorem dt_27 : decode prog_16_method_6_code 27 = .ok (.iinc 2 1, 3) := by decide +kernel
theorem dt_30 : decode prog_16_method_6_code 30 = .ok (.goto (-20), 3) := by decide +kernel
theorem dt_33 : decode prog_16_method_6_code 33 = .ok (.aload_n 1, 1) := by decide +kernel
theorem dt_34 : decode prog_16_method_6_code 34 = .ok (.areturn, 1) := by decide +kernel
theorem pn_t0 : plainName "com/example/vanon/vanon/lattice/Lattice" = true := by first | (simp [plainName, overriddenIn]; done) | decide +kernel
theorem ef_t0 (m : MethodId) (a : Addr) : entryFrame m #[(.ref a)] 3 = (mkF m 0 #[.val (.ref a), .unset, .unset] []) := by first | (simp [entryFrame, mkF, argsToLocals, Value.category]; done) | rfl
def Qt0 (Z : State) (a : Addr) (b2 : Addr) (kk0 : ClassId) (h0 : Heap) (n0 : Nat) (v : Option Value) (h : Heap) (L : List Loc) : Prop := ∃ (t : Addr) (kt : ClassId), v = some (.ref t) ∧ Fr n0 L ∧ Keep h0 h [] ∧ Arv Z h t kt .int (0 : Int32) ([] : List Value) (.int (0 : Int32))
set_option maxRecDepth 65536 in
set_option maxHeartbeats 40000000 in
theorem rmt0 (l : Launch) (Z : State) (a0 : Array Value) (hw : ∀ d ∈ tables_1, d.before a0 Z = true) (ws : List Jvm.Cond) (a : Addr) (b2 : Addr) (kk0 : ClassId) (h0 : Heap) (n0 : Nat) (Z0 : n0 ≤ h0.size) (F_a_levelCounts : Fld Z h0 a "com/example/vanon/vanon/lattice/Lattice" "levelCounts" "[I" (.ref b2)) (V_b2 : Arv Z h0 b2 kk0 .int (0 : Int32) ([] : List Value) (.int (0 : Int32))) :
    MetFree l (⟨"com/example/vanon/vanon/lattice/Lattice", "top", "()[I"⟩ : MethodName) (head1 (Jvm.Cond.code (⟨"com/example/vanon/vanon/lattice/Lattice", "top", "()[I"⟩ : MethodName) prog_16_method_6_code 3 (some (.array .int)) :: ws) ({ frames := 0, cells := 1, slots := 0, locals := 0 } : Room)) (fun as' U => as' = #[(.ref a)] ∧ Z.Warmed39 U.vm ∧ U.heap = h0) (fun _ _ _ _ _ => True) (fun _ U o U' => ∃ v L, o = .returned v ∧ Qt0 Z a b2 kk0 h0 n0 v U'.heap L ∧ FrameEnd U o U' L ({ frames := 0, cells := 1, slots := 0, locals := 0 } : Room).cells ({ frames := 0, cells := 1, slots := 0, locals := 0 } : Room).slots) := by
  refine MetFree.of_bodySF (plainFor_of_name pn_t0) hisR ?_
  intro p e s m args below meth c s₁ Bd hml0 hP hK
  obtain ⟨rfl, hZ, hh⟩ := hP
  have hx := Bd.exec
  have hby := Bd.bytes
  have hml : c.maxLocals = 3 := hml0
  have hown : s.vm.findClass "com/example/vanon/vanon/lattice/Lattice" = some m.cls := findClass_of_methodNamed Bd.named
  have hnm := (name_of_methodNamed Bd.named Bd.method).1
  have X0 : Stand p l e ({ frames := 0, cells := 1, slots := 0, locals := 0 } : Room) s m #[(.ref a)] below meth c s₁ [] 0 0 := Stand.of_body Bd
  have e0 : s₁.heap = h0 := by rw [← hh, Bd.state]; rfl
  have N0 := Fr.nil n0
  have K : Keep h0 h0 [] := Keep.refl _ _
  refine own_via (fun t k => castTop (ef_t0 m a) k) ?_
  show own_G _ _ _ _ (s₁.setTop (mkF m 0 #[.val (.ref a), .unset, .unset] []))
  refine own_via (fun _ k => XS.aloadN X0.here hx rfl (hb hby dt_0) rfl rfl k) ?_
  show own_G _ _ _ _ (s₁.setTop (mkF m 1 #[.val (.ref a), .unset, .unset] [(.ref a)]))
  obtain ⟨T65, X65, e65, st65⟩ := getF X0 hx hZ hown (host := "") (Or.inl (hw _ (List.mem_of_getElem? (i := 21) rfl))) Via.refl e0 F_a_levelCounts (g := (mkF m 1 #[.val (.ref a), .unset, .unset] [(.ref a)])) rfl rfl (hb hby dt_1)
  refine own_via st65 ?_
  show own_G _ _ _ _ (T65.setTop (mkF m 4 #[.val (.ref a), .unset, .unset] [(.ref b2)]))
  obtain ⟨cl66, Ar66, -, Sz66, Nn66, -, -⟩ := id V_b2
  refine own_via (fun _ k => X65.arraylength hx (by rw [e65]; exact Ar66.1) (State.isArrayOf_alike hZ.alike Ar66.2.1) (g := (mkF m 4 #[.val (.ref a), .unset, .unset] [(.ref b2)])) rfl rfl (hb hby dt_4) _ k) ?_
  rw [len_of Sz66 Nn66]
  show own_G _ _ _ _ (T65.setTop (mkF m 5 #[.val (.ref a), .unset, .unset] [(.int (0 : Int32))]))
  obtain ⟨T67, h67, k_t, X67, e67, E67, A67, st67⟩ := newP X65 hx hZ (hw _ (List.mem_of_getElem? (i := 2) rfl)) e65 (g := (mkF m 5 #[.val (.ref a), .unset, .unset] [(.int (0 : Int32))])) rfl (hb hby dt_5) rfl (by decide) (cap := 0) (by decide) (by decide) (by decide) (by decide)
  obtain ⟨t, g67⟩ : ∃ z, z = h0.size := ⟨_, rfl⟩
  rw [← g67] at A67 st67
  have g_t : n0 ≤ t := Nat.le_trans Z0 (Nat.le_of_eq g67.symm)
  have sz_t : h0.size ≤ t := Nat.le_trans K.1 (Nat.le_of_eq g67.symm)
  have ne_a_t : a ≠ t := Nat.ne_of_lt (Nat.lt_of_lt_of_le F_a_levelCounts.lt (Nat.le_of_eq g67.symm))
  have ne_b2_t : b2 ≠ t := Nat.ne_of_lt (Nat.lt_of_lt_of_le V_b2.lt (Nat.le_of_eq g67.symm))
  have F_a_levelCounts := F_a_levelCounts.ext E67
  have V_b2 := V_b2.ext E67
  have Z0 := Nat.le_trans Z0 E67.1
  have K := K.ext E67
  have V_t : Arv Z h67 t k_t .int (0 : Int32) [] (.int (0 : Int32)) := (Arv.new A67 (by decide)).pad (pad_rep [] (.int (0 : Int32)) 0)
  refine own_via st67 ?_
  show own_G _ _ _ _ (T67.setTop (mkF m 7 #[.val (.ref a), .unset, .unset] [(.ref t)]))
  refine own_via (fun _ k => XS.astoreN X67.here hx rfl (hb hby dt_7) rfl rfl (l' := #[.val (.ref a), .val (.ref t), .unset]) rfl k) ?_
  show own_G _ _ _ _ (T67.setTop (mkF m 8 #[.val (.ref a), .val (.ref t), .unset] []))
  refine own_via (fun _ k => XS.iconst X67.here hx rfl (hb hby dt_8) k) ?_
  show own_G _ _ _ _ (T67.setTop (mkF m 9 #[.val (.ref a), .val (.ref t), .unset] [(.int (0 : Int32))]))
  refine own_via (fun _ k => XS.istoreN X67.here hx rfl (hb hby dt_9) rfl (l' := #[.val (.ref a), .val (.ref t), .val (.int (0 : Int32))]) rfl k) ?_
  show own_G _ _ _ _ (T67.setTop (mkF m 10 #[.val (.ref a), .val (.ref t), .val (.int (0 : Int32))] []))
  refine own_via (fun _ k => XS.iloadN X67.here hx rfl (hb hby dt_10) rfl k) ?_
  show own_G _ _ _ _ (T67.setTop (mkF m 11 #[.val (.ref a), .val (.ref t), .val (.int (0 : Int32))] [(.int (0 : Int32))]))
  refine own_via (fun _ k => XS.aloadN X67.here hx rfl (hb hby dt_11) rfl rfl k) ?_
  show own_G _ _ _ _ (T67.setTop (mkF m 12 #[.val (.ref a), .val (.ref t), .val (.int (0 : Int32))] [(.ref t), (.int (0 : Int32))]))
  obtain ⟨cl68, Ar68, -, Sz68, Nn68, -, -⟩ := id V_t
  refine own_via (fun _ k => X67.arraylength hx (by rw [e67]; exact Ar68.1) (State.isArrayOf_alike hZ.alike Ar68.2.1) (g := (mkF m 12 #[.val (.ref a), .val (.ref t), .val (.int (0 : Int32))] [(.ref t), (.int (0 : Int32))])) rfl rfl (hb hby dt_12) _ k) ?_
  rw [len_of Sz68 Nn68]
  show own_G _ _ _ _ (T67.setTop (mkF m 13 #[.val (.ref a), .val (.ref t), .val (.int (0 : Int32))] [(.int (0 : Int32)), (.int (0 : Int32))]))
  refine own_via (fun _ k => XS.icmpYes X67.here hx rfl (pc0 := 13) (pc' := 33) rfl (hb hby dt_13) rfl (flt (by decide)).2.1 (by decide) (by decide) k) ?_
  show own_G _ _ _ _ (T67.setTop (mkF m 33 #[.val (.ref a), .val (.ref t), .val (.int (0 : Int32))] []))
  refine own_via (fun _ k => XS.aloadN X67.here hx rfl (hb hby dt_33) rfl rfl k) ?_
  show own_G _ _ _ _ (T67.setTop (mkF m 34 #[.val (.ref a), .val (.ref t), .val (.int (0 : Int32))] [(.ref t)]))
  obtain ⟨fs, hr, hrun, hended, hW, hsame⟩ := X67.leave (v := some (.ref t)) (fun h => by rw [Bd.returns] at h; cases h)
  refine ⟨_, _, ?_, hrun, hended, _, _, rfl, ?_, ⟨_, rfl⟩, hW, hsame.mono (by decide) (by decide)⟩
  · jvm_step X67.here [X67.here.top, hx, (hb hby dt_34), X67.method', Bd.returns, Value.isRef, FieldType.isReference]
    first | (intro acts; rw [hr _ acts rfl rfl rfl]) | rw [hr _ _ rfl rfl rfl]
    exact Steps.refl _
  · show Qt0 Z a b2 kk0 h0 n0 _ T67.heap _
    rw [e67]
    exact ⟨t, _, rfl, N0, K, V_t⟩
theorem pn_t1 : plainName "com/example/vanon/vanon/lattice/Lattice" = true := by first | (simp [plainName, overriddenIn]; done) | decide +kernel
theorem ef_t1 (m : MethodId) (a : Addr) : entryFrame m #[(.ref a)] 3 = (mkF m 0 #[.val (.ref a), .unset, .unset] []) := by first | (simp [entryFrame, mkF, argsToLocals, Value.category]; done) | rfl
def Qt1 (Z : State) (a : Addr) (b2 : Addr) (kk0 : ClassId) (c0 : Int32) (h0 : Heap) (n0 : Nat) (v : Option Value) (h : Heap) (L : List Loc) : Prop := ∃ (t : Addr) (kt : ClassId), v = some (.ref t) ∧ Fr n0 L ∧ Keep h0 h [] ∧ Arv Z h t kt .int (1 : Int32) ([(.int (c0 - (1 : Int32)))] : List Value) (.int (0 : Int32))
set_option maxRecDepth 65536 in
set_option maxHeartbeats 40000000 in
theorem rmt1 (l : Launch) (Z : State) (a0 : Array Value) (hw : ∀ d ∈ tables_1, d.before a0 Z = true) (ws : List Jvm.Cond) (a : Addr) (b2 : Addr) (kk0 : ClassId) (c0 : Int32) (h0 : Heap) (n0 : Nat) (Z0 : n0 ≤ h0.size) (F_a_levelCounts : Fld Z h0 a "com/example/vanon/vanon/lattice/Lattice" "levelCounts" "[I" (.ref b2)) (V_b2 : Arv Z h0 b2 kk0 .int (1 : Int32) ([(.int c0)] : List Value) (.int (0 : Int32))) :
    MetFree l (⟨"com/example/vanon/vanon/lattice/Lattice", "top", "()[I"⟩ : MethodName) (head1 (Jvm.Cond.code (⟨"com/example/vanon/vanon/lattice/Lattice", "top", "()[I"⟩ : MethodName) prog_16_method_6_code 3 (some (.array .int)) :: ws) ({ frames := 0, cells := 1, slots := 1, locals := 0 } : Room)) (fun as' U => as' = #[(.ref a)] ∧ Z.Warmed39 U.vm ∧ U.heap = h0) (fun _ _ _ _ _ => True) (fun _ U o U' => ∃ v L, o = .returned v ∧ Qt1 Z a b2 kk0 c0 h0 n0 v U'.heap L ∧ FrameEnd U o U' L ({ frames := 0, cells := 1, slots := 1, locals := 0 } : Room).cells ({ frames := 0, cells := 1, slots := 1, locals := 0 } : Room).slots) := by
  refine MetFree.of_bodySF (plainFor_of_name pn_t1) hisR ?_
  intro p e s m args below meth c s₁ Bd hml0 hP hK
  obtain ⟨rfl, hZ, hh⟩ := hP
  have hx := Bd.exec
  have hby := Bd.bytes
  have hml : c.maxLocals = 3 := hml0
  have hown : s.vm.findClass "com/example/vanon/vanon/lattice/Lattice" = some m.cls := findClass_of_methodNamed Bd.named
  have hnm := (name_of_methodNamed Bd.named Bd.method).1
  have X0 : Stand p l e ({ frames := 0, cells := 1, slots := 1, locals := 0 } : Room) s m #[(.ref a)] below meth c s₁ [] 0 0 := Stand.of_body Bd
  have e0 : s₁.heap = h0 := by rw [← hh, Bd.state]; rfl
  have N0 := Fr.nil n0
  have K : Keep h0 h0 [] := Keep.refl _ _
  refine own_via (fun t k => castTop (ef_t1 m a) k) ?_
  show own_G _ _ _ _ (s₁.setTop (mkF m 0 #[.val (.ref a), .unset, .unset] []))
  refine own_via (fun _ k => XS.aloadN X0.here hx rfl (hb hby dt_0) rfl rfl k) ?_
  show own_G _ _ _ _ (s₁.setTop (mkF m 1 #[.val (.ref a), .unset, .unset] [(.ref a)]))
  obtain ⟨T69, X69, e69, st69⟩ := getF X0 hx hZ hown (host := "") (Or.inl (hw _ (List.mem_of_getElem? (i := 21) rfl))) Via.refl e0 F_a_levelCounts (g := (mkF m 1 #[.val (.ref a), .unset, .unset] [(.ref a)])) rfl rfl (hb hby dt_1)
  refine own_via st69 ?_
  show own_G _ _ _ _ (T69.setTop (mkF m 4 #[.val (.ref a), .unset, .unset] [(.ref b2)]))
  obtain ⟨cl70, Ar70, -, Sz70, Nn70, -, -⟩ := id V_b2
  refine own_via (fun _ k => X69.arraylength hx (by rw [e69]; exact Ar70.1) (State.isArrayOf_alike hZ.alike Ar70.2.1) (g := (mkF m 4 #[.val (.ref a), .unset, .unset] [(.ref b2)])) rfl rfl (hb hby dt_4) _ k) ?_
  rw [len_of Sz70 Nn70]
  show own_G _ _ _ _ (T69.setTop (mkF m 5 #[.val (.ref a), .unset, .unset] [(.int (1 : Int32))]))
  obtain ⟨T71, h71, k_t, X71, e71, E71, A71, st71⟩ := newP X69 hx hZ (hw _ (List.mem_of_getElem? (i := 2) rfl)) e69 (g := (mkF m 5 #[.val (.ref a), .unset, .unset] [(.int (1 : Int32))])) rfl (hb hby dt_5) rfl (by decide) (cap := 1) (by decide) (by decide) (by decide) (by decide)
  obtain ⟨t, g71⟩ : ∃ z, z = h0.size := ⟨_, rfl⟩
  rw [← g71] at A71 st71
  have g_t : n0 ≤ t := Nat.le_trans Z0 (Nat.le_of_eq g71.symm)
  have sz_t : h0.size ≤ t := Nat.le_trans K.1 (Nat.le_of_eq g71.symm)
  have ne_a_t : a ≠ t := Nat.ne_of_lt (Nat.lt_of_lt_of_le F_a_levelCounts.lt (Nat.le_of_eq g71.symm))
  have ne_b2_t : b2 ≠ t := Nat.ne_of_lt (Nat.lt_of_lt_of_le V_b2.lt (Nat.le_of_eq g71.symm))
  have F_a_levelCounts := F_a_levelCounts.ext E71
  have V_b2 := V_b2.ext E71
  have Z0 := Nat.le_trans Z0 E71.1
  have K := K.ext E71
  have V_t : Arv Z h71 t k_t .int (1 : Int32) [(.int (0 : Int32))] (.int (0 : Int32)) := (Arv.new A71 (by decide)).pad (pad_rep [] (.int (0 : Int32)) 1)
  refine own_via st71 ?_
  show own_G _ _ _ _ (T71.setTop (mkF m 7 #[.val (.ref a), .unset, .unset] [(.ref t)]))
  refine own_via (fun _ k => XS.astoreN X71.here hx rfl (hb hby dt_7) rfl rfl (l' := #[.val (.ref a), .val (.ref t), .unset]) rfl k) ?_
  show own_G _ _ _ _ (T71.setTop (mkF m 8 #[.val (.ref a), .val (.ref t), .unset] []))
  refine own_via (fun _ k => XS.iconst X71.here hx rfl (hb hby dt_8) k) ?_
  show own_G _ _ _ _ (T71.setTop (mkF m 9 #[.val (.ref a), .val (.ref t), .unset] [(.int (0 : Int32))]))
  refine own_via (fun _ k => XS.istoreN X71.here hx rfl (hb hby dt_9) rfl (l' := #[.val (.ref a), .val (.ref t), .val (.int (0 : Int32))]) rfl k) ?_
  show own_G _ _ _ _ (T71.setTop (mkF m 10 #[.val (.ref a), .val (.ref t), .val (.int (0 : Int32))] []))
  refine own_via (fun _ k => XS.iloadN X71.here hx rfl (hb hby dt_10) rfl k) ?_
  show own_G _ _ _ _ (T71.setTop (mkF m 11 #[.val (.ref a), .val (.ref t), .val (.int (0 : Int32))] [(.int (0 : Int32))]))
  refine own_via (fun _ k => XS.aloadN X71.here hx rfl (hb hby dt_11) rfl rfl k) ?_
  show own_G _ _ _ _ (T71.setTop (mkF m 12 #[.val (.ref a), .val (.ref t), .val (.int (0 : Int32))] [(.ref t), (.int (0 : Int32))]))
  obtain ⟨cl72, Ar72, -, Sz72, Nn72, -, -⟩ := id V_t
  refine own_via (fun _ k => X71.arraylength hx (by rw [e71]; exact Ar72.1) (State.isArrayOf_alike hZ.alike Ar72.2.1) (g := (mkF m 12 #[.val (.ref a), .val (.ref t), .val (.int (0 : Int32))] [(.ref t), (.int (0 : Int32))])) rfl rfl (hb hby dt_12) _ k) ?_
  rw [len_of Sz72 Nn72]
  show own_G _ _ _ _ (T71.setTop (mkF m 13 #[.val (.ref a), .val (.ref t), .val (.int (0 : Int32))] [(.int (1 : Int32)), (.int (0 : Int32))]))
  refine own_via (fun _ k => XS.icmpNo X71.here hx rfl (hb hby dt_13) rfl (tlt (by decide)).2.1 k) ?_
  show own_G _ _ _ _ (T71.setTop (mkF m 16 #[.val (.ref a), .val (.ref t), .val (.int (0 : Int32))] []))
  refine own_via (fun _ k => XS.aloadN X71.here hx rfl (hb hby dt_16) rfl rfl k) ?_
  show own_G _ _ _ _ (T71.setTop (mkF m 17 #[.val (.ref a), .val (.ref t), .val (.int (0 : Int32))] [(.ref t)]))
  refine own_via (fun _ k => XS.iloadN X71.here hx rfl (hb hby dt_17) rfl k) ?_
  show own_G _ _ _ _ (T71.setTop (mkF m 18 #[.val (.ref a), .val (.ref t), .val (.int (0 : Int32))] [(.int (0 : Int32)), (.ref t)]))
  refine own_via (fun _ k => XS.aloadN X71.here hx rfl (hb hby dt_18) rfl rfl k) ?_
  show own_G _ _ _ _ (T71.setTop (mkF m 19 #[.val (.ref a), .val (.ref t), .val (.int (0 : Int32))] [(.ref a), (.int (0 : Int32)), (.ref t)]))
  obtain ⟨T73, X73, e73, st73⟩ := getF X71 hx hZ hown (host := "") (Or.inl (hw _ (List.mem_of_getElem? (i := 21) rfl))) Via.refl e71 F_a_levelCounts (g := (mkF m 19 #[.val (.ref a), .val (.ref t), .val (.int (0 : Int32))] [(.ref a), (.int (0 : Int32)), (.ref t)])) rfl rfl (hb hby dt_19)
  refine own_via st73 ?_
  show own_G _ _ _ _ (T73.setTop (mkF m 22 #[.val (.ref a), .val (.ref t), .val (.int (0 : Int32))] [(.ref b2), (.int (0 : Int32)), (.ref t)]))
  refine own_via (fun _ k => XS.iloadN X73.here hx rfl (hb hby dt_22) rfl k) ?_
  show own_G _ _ _ _ (T73.setTop (mkF m 23 #[.val (.ref a), .val (.ref t), .val (.int (0 : Int32))] [(.int (0 : Int32)), (.ref b2), (.int (0 : Int32)), (.ref t)]))
  obtain ⟨cl74, Ar74, -, Sz74, Nn74, Hh74, -⟩ := id V_b2
  have hin74 : ¬ ((0 : Int32) < 0 ∨ cl74.slots.size ≤ ((0 : Int32)).toNatClampNeg) := inb_of Sz74 ⟨by decide, by decide⟩
  have hat74 : cl74.slots[((0 : Int32)).toNatClampNeg]? = some (.int c0) := Has.at Hh74 hin74 rfl
  refine own_via (fun _ k => X73.iaload hx (j := (0 : Int32)) (v := (.int c0)) (by rw [e73]; exact Ar74.1) (State.isArrayOf_alike hZ.alike Ar74.2.1) Ar74.2.2 hin74 hat74 (g := (mkF m 23 #[.val (.ref a), .val (.ref t), .val (.int (0 : Int32))] [(.int (0 : Int32)), (.ref b2), (.int (0 : Int32)), (.ref t)])) rfl rfl (hb hby dt_23) _ k) ?_
  show own_G _ _ _ _ (T73.setTop (mkF m 24 #[.val (.ref a), .val (.ref t), .val (.int (0 : Int32))] [(.int c0), (.int (0 : Int32)), (.ref t)]))
  refine own_via (fun _ k => XS.iconst X73.here hx rfl (hb hby dt_24) k) ?_
  show own_G _ _ _ _ (T73.setTop (mkF m 25 #[.val (.ref a), .val (.ref t), .val (.int (0 : Int32))] [(.int (1 : Int32)), (.int c0), (.int (0 : Int32)), (.ref t)]))
  refine own_via (fun _ k => XS.isub X73.here hx rfl (hb hby dt_25) rfl k) ?_
  show own_G _ _ _ _ (T73.setTop (mkF m 26 #[.val (.ref a), .val (.ref t), .val (.int (0 : Int32))] [(.int (c0 - (1 : Int32))), (.int (0 : Int32)), (.ref t)]))
  obtain ⟨cl_t, Ar_t, q_t, S_t, Nn_t, H_t, G_t⟩ := V_t
  have hin75 : ¬ ((0 : Int32) < 0 ∨ cl_t.slots.size ≤ ((0 : Int32)).toNatClampNeg) := inb_of S_t ⟨by decide, by decide⟩
  obtain ⟨T75, h75, X75, e75, W75, st75⟩ := stI X73 hx hZ e73 Ar_t (j := (0 : Int32)) hin75 (g := (mkF m 26 #[.val (.ref a), .val (.ref t), .val (.int (0 : Int32))] [(.int (c0 - (1 : Int32))), (.int (0 : Int32)), (.ref t)])) rfl rfl (hb hby dt_26)
  have V_t : Arv Z h75 t k_t .int (1 : Int32) ([(.int (c0 - (1 : Int32)))] : List Value) (.int (0 : Int32)) := Arv.set Ar_t q_t S_t Nn_t H_t G_t rfl W75 0 rfl (Nat.le_of_ble_eq_true rfl)
  have F_a_levelCounts := F_a_levelCounts.other W75 (Or.inl ne_a_t)
  have V_b2 := V_b2.other W75 ne_b2_t
  have Z0 := Nat.le_trans Z0 (Keep.of_wr W75).1
  have K := K.wr W75 (Or.inr sz_t)
  have N75 := Fr.snoc X75 N0 g_t
  refine own_via st75 ?_
  show own_G _ _ _ _ (T75.setTop (mkF m 27 #[.val (.ref a), .val (.ref t), .val (.int (0 : Int32))] []))
  refine own_via (fun _ k => XS.iinc X75.here hx rfl (hb hby dt_27) rfl (l' := #[.val (.ref a), .val (.ref t), .val (.int ((0 : Int32) + (1 : Int32)))]) rfl k) ?_
  show own_G _ _ _ _ (T75.setTop (mkF m 30 #[.val (.ref a), .val (.ref t), .val (.int ((0 : Int32) + (1 : Int32)))] []))
  refine own_via (fun _ k => XS.goto X75.here hx rfl (pc0 := 30) (pc' := 10) rfl (hb hby dt_30) (by decide) (by decide) k) ?_
  show own_G _ _ _ _ (T75.setTop (mkF m 10 #[.val (.ref a), .val (.ref t), .val (.int ((0 : Int32) + (1 : Int32)))] []))
  refine own_via (fun _ k => XS.iloadN X75.here hx rfl (hb hby dt_10) rfl k) ?_
  show own_G _ _ _ _ (T75.setTop (mkF m 11 #[.val (.ref a), .val (.ref t), .val (.int ((0 : Int32) + (1 : Int32)))] [(.int ((0 : Int32) + (1 : Int32)))]))
  refine own_via (fun _ k => XS.aloadN X75.here hx rfl (hb hby dt_11) rfl rfl k) ?_
  show own_G _ _ _ _ (T75.setTop (mkF m 12 #[.val (.ref a), .val (.ref t), .val (.int ((0 : Int32) + (1 : Int32)))] [(.ref t), (.int ((0 : Int32) + (1 : Int32)))]))
  obtain ⟨cl76, Ar76, -, Sz76, Nn76, -, -⟩ := id V_t
  refine own_via (fun _ k => X75.arraylength hx (by rw [e75]; exact Ar76.1) (State.isArrayOf_alike hZ.alike Ar76.2.1) (g := (mkF m 12 #[.val (.ref a), .val (.ref t), .val (.int ((0 : Int32) + (1 : Int32)))] [(.ref t), (.int ((0 : Int32) + (1 : Int32)))])) rfl rfl (hb hby dt_12) _ k) ?_
  rw [len_of Sz76 Nn76]
  show own_G _ _ _ _ (T75.setTop (mkF m 13 #[.val (.ref a), .val (.ref t), .val (.int ((0 : Int32) + (1 : Int32)))] [(.int (1 : Int32)), (.int ((0 : Int32) + (1 : Int32)))]))
  refine own_via (fun _ k => XS.icmpYes X75.here hx rfl (pc0 := 13) (pc' := 33) rfl (hb hby dt_13) rfl (flt (by decide)).2.1 (by decide) (by decide) k) ?_
  show own_G _ _ _ _ (T75.setTop (mkF m 33 #[.val (.ref a), .val (.ref t), .val (.int ((0 : Int32) + (1 : Int32)))] []))
  refine own_via (fun _ k => XS.aloadN X75.here hx rfl (hb hby dt_33) rfl rfl k) ?_
  show own_G _ _ _ _ (T75.setTop (mkF m 34 #[.val (.ref a), .val (.ref t), .val (.int ((0 : Int32) + (1 : Int32)))] [(.ref t)]))
  obtain ⟨fs, hr, hrun, hended, hW, hsame⟩ := X75.leave (v := some (.ref t)) (fun h => by rw [Bd.returns] at h; cases h)
  refine ⟨_, _, ?_, hrun, hended, _, _, rfl, ?_, ⟨_, rfl⟩, hW, hsame.mono (by decide) (by decide)⟩
  · jvm_step X75.here [X75.here.top, hx, (hb hby dt_34), X75.method', Bd.returns, Value.isRef, FieldType.isReference]
    first | (intro acts; rw [hr _ acts rfl rfl rfl]) | rw [hr _ _ rfl rfl rfl]
    exact Steps.refl _
  · show Qt1 Z a b2 kk0 c0 h0 n0 _ T75.heap _
    rw [e75]
    exact ⟨t, _, rfl, N75, K, V_t⟩
theorem pn_t2 : plainName "com/example/vanon/vanon/lattice/Lattice" = true := by first | (simp [plainName, overriddenIn]; done) | decide +kernel
theorem ef_t2 (m : MethodId) (a : Addr) : entryFrame m #[(.ref a)] 3 = (mkF m 0 #[.val (.ref a), .unset, .unset] []) := by first | (simp [entryFrame, mkF, argsToLocals, Value.category]; done) | rfl
def Qt2 (Z : State) (a : Addr) (b2 : Addr) (kk0 : ClassId) (c0 : Int32) (c1 : Int32) (h0 : Heap) (n0 : Nat) (v : Option Value) (h : Heap) (L : List Loc) : Prop := ∃ (t : Addr) (kt : ClassId), v = some (.ref t) ∧ Fr n0 L ∧ Keep h0 h [] ∧ Arv Z h t kt .int (2 : Int32) ([(.int (c0 - (1 : Int32))), (.int (c1 - (1 : Int32)))] : List Value) (.int (0 : Int32))
set_option maxRecDepth 65536 in
set_option maxHeartbeats 40000000 in
theorem rmt2 (l : Launch) (Z : State) (a0 : Array Value) (hw : ∀ d ∈ tables_1, d.before a0 Z = true) (ws : List Jvm.Cond) (a : Addr) (b2 : Addr) (kk0 : ClassId) (c0 : Int32) (c1 : Int32) (h0 : Heap) (n0 : Nat) (Z0 : n0 ≤ h0.size) (F_a_levelCounts : Fld Z h0 a "com/example/vanon/vanon/lattice/Lattice" "levelCounts" "[I" (.ref b2)) (V_b2 : Arv Z h0 b2 kk0 .int (2 : Int32) ([(.int c0), (.int c1)] : List Value) (.int (0 : Int32))) :
    MetFree l (⟨"com/example/vanon/vanon/lattice/Lattice", "top", "()[I"⟩ : MethodName) (head1 (Jvm.Cond.code (⟨"com/example/vanon/vanon/lattice/Lattice", "top", "()[I"⟩ : MethodName) prog_16_method_6_code 3 (some (.array .int)) :: ws) ({ frames := 0, cells := 1, slots := 2, locals := 0 } : Room)) (fun as' U => as' = #[(.ref a)] ∧ Z.Warmed39 U.vm ∧ U.heap = h0) (fun _ _ _ _ _ => True) (fun _ U o U' => ∃ v L, o = .returned v ∧ Qt2 Z a b2 kk0 c0 c1 h0 n0 v U'.heap L ∧ FrameEnd U o U' L ({ frames := 0, cells := 1, slots := 2, locals := 0 } : Room).cells ({ frames := 0, cells := 1, slots := 2, locals := 0 } : Room).slots) := by
  refine MetFree.of_bodySF (plainFor_of_name pn_t2) hisR ?_
  intro p e s m args below meth c s₁ Bd hml0 hP hK
  obtain ⟨rfl, hZ, hh⟩ := hP
  have hx := Bd.exec
  have hby := Bd.bytes
  have hml : c.maxLocals = 3 := hml0
  have hown : s.vm.findClass "com/example/vanon/vanon/lattice/Lattice" = some m.cls := findClass_of_methodNamed Bd.named
  have hnm := (name_of_methodNamed Bd.named Bd.method).1
  have X0 : Stand p l e ({ frames := 0, cells := 1, slots := 2, locals := 0 } : Room) s m #[(.ref a)] below meth c s₁ [] 0 0 := Stand.of_body Bd
  have e0 : s₁.heap = h0 := by rw [← hh, Bd.state]; rfl
  have N0 := Fr.nil n0
  have K : Keep h0 h0 [] := Keep.refl _ _
  refine own_via (fun t k => castTop (ef_t2 m a) k) ?_
  show own_G _ _ _ _ (s₁.setTop (mkF m 0 #[.val (.ref a), .unset, .unset] []))
  refine own_via (fun _ k => XS.aloadN X0.here hx rfl (hb hby dt_0) rfl rfl k) ?_
  show own_G _ _ _ _ (s₁.setTop (mkF m 1 #[.val (.ref a), .unset, .unset] [(.ref a)]))
  obtain ⟨T77, X77, e77, st77⟩ := getF X0 hx hZ hown (host := "") (Or.inl (hw _ (List.mem_of_getElem? (i := 21) rfl))) Via.refl e0 F_a_levelCounts (g := (mkF m 1 #[.val (.ref a), .unset, .unset] [(.ref a)])) rfl rfl (hb hby dt_1)
  refine own_via st77 ?_
  show own_G _ _ _ _ (T77.setTop (mkF m 4 #[.val (.ref a), .unset, .unset] [(.ref b2)]))
  obtain ⟨cl78, Ar78, -, Sz78, Nn78, -, -⟩ := id V_b2
  refine own_via (fun _ k => X77.arraylength hx (by rw [e77]; exact Ar78.1) (State.isArrayOf_alike hZ.alike Ar78.2.1) (g := (mkF m 4 #[.val (.ref a), .unset, .unset] [(.ref b2)])) rfl rfl (hb hby dt_4) _ k) ?_
  rw [len_of Sz78 Nn78]
  show own_G _ _ _ _ (T77.setTop (mkF m 5 #[.val (.ref a), .unset, .unset] [(.int (2 : Int32))]))
  obtain ⟨T79, h79, k_t, X79, e79, E79, A79, st79⟩ := newP X77 hx hZ (hw _ (List.mem_of_getElem? (i := 2) rfl)) e77 (g := (mkF m 5 #[.val (.ref a), .unset, .unset] [(.int (2 : Int32))])) rfl (hb hby dt_5) rfl (by decide) (cap := 2) (by decide) (by decide) (by decide) (by decide)
  obtain ⟨t, g79⟩ : ∃ z, z = h0.size := ⟨_, rfl⟩
  rw [← g79] at A79 st79
  have g_t : n0 ≤ t := Nat.le_trans Z0 (Nat.le_of_eq g79.symm)
  have sz_t : h0.size ≤ t := Nat.le_trans K.1 (Nat.le_of_eq g79.symm)
  have ne_a_t : a ≠ t := Nat.ne_of_lt (Nat.lt_of_lt_of_le F_a_levelCounts.lt (Nat.le_of_eq g79.symm))
  have ne_b2_t : b2 ≠ t := Nat.ne_of_lt (Nat.lt_of_lt_of_le V_b2.lt (Nat.le_of_eq g79.symm))
  have F_a_levelCounts := F_a_levelCounts.ext E79
  have V_b2 := V_b2.ext E79
  have Z0 := Nat.le_trans Z0 E79.1
  have K := K.ext E79
  have V_t : Arv Z h79 t k_t .int (2 : Int32) [(.int (0 : Int32)), (.int (0 : Int32))] (.int (0 : Int32)) := (Arv.new A79 (by decide)).pad (pad_rep [] (.int (0 : Int32)) 2)
  refine own_via st79 ?_
  show own_G _ _ _ _ (T79.setTop (mkF m 7 #[.val (.ref a), .unset, .unset] [(.ref t)]))
  refine own_via (fun _ k => XS.astoreN X79.here hx rfl (hb hby dt_7) rfl rfl (l' := #[.val (.ref a), .val (.ref t), .unset]) rfl k) ?_
  show own_G _ _ _ _ (T79.setTop (mkF m 8 #[.val (.ref a), .val (.ref t), .unset] []))
  refine own_via (fun _ k => XS.iconst X79.here hx rfl (hb hby dt_8) k) ?_
  show own_G _ _ _ _ (T79.setTop (mkF m 9 #[.val (.ref a), .val (.ref t), .unset] [(.int (0 : Int32))]))
  refine own_via (fun _ k => XS.istoreN X79.here hx rfl (hb hby dt_9) rfl (l' := #[.val (.ref a), .val (.ref t), .val (.int (0 : Int32))]) rfl k) ?_
  show own_G _ _ _ _ (T79.setTop (mkF m 10 #[.val (.ref a), .val (.ref t), .val (.int (0 : Int32))] []))
  refine own_via (fun _ k => XS.iloadN X79.here hx rfl (hb hby dt_10) rfl k) ?_
  show own_G _ _ _ _ (T79.setTop (mkF m 11 #[.val (.ref a), .val (.ref t), .val (.int (0 : Int32))] [(.int (0 : Int32))]))
  refine own_via (fun _ k => XS.aloadN X79.here hx rfl (hb hby dt_11) rfl rfl k) ?_
  show own_G _ _ _ _ (T79.setTop (mkF m 12 #[.val (.ref a), .val (.ref t), .val (.int (0 : Int32))] [(.ref t), (.int (0 : Int32))]))
  obtain ⟨cl80, Ar80, -, Sz80, Nn80, -, -⟩ := id V_t
  refine own_via (fun _ k => X79.arraylength hx (by rw [e79]; exact Ar80.1) (State.isArrayOf_alike hZ.alike Ar80.2.1) (g := (mkF m 12 #[.val (.ref a), .val (.ref t), .val (.int (0 : Int32))] [(.ref t), (.int (0 : Int32))])) rfl rfl (hb hby dt_12) _ k) ?_
  rw [len_of Sz80 Nn80]
  show own_G _ _ _ _ (T79.setTop (mkF m 13 #[.val (.ref a), .val (.ref t), .val (.int (0 : Int32))] [(.int (2 : Int32)), (.int (0 : Int32))]))
  refine own_via (fun _ k => XS.icmpNo X79.here hx rfl (hb hby dt_13) rfl (tlt (by decide)).2.1 k) ?_
  show own_G _ _ _ _ (T79.setTop (mkF m 16 #[.val (.ref a), .val (.ref t), .val (.int (0 : Int32))] []))
  refine own_via (fun _ k => XS.aloadN X79.here hx rfl (hb hby dt_16) rfl rfl k) ?_
  show own_G _ _ _ _ (T79.setTop (mkF m 17 #[.val (.ref a), .val (.ref t), .val (.int (0 : Int32))] [(.ref t)]))
  refine own_via (fun _ k => XS.iloadN X79.here hx rfl (hb hby dt_17) rfl k) ?_
  show own_G _ _ _ _ (T79.setTop (mkF m 18 #[.val (.ref a), .val (.ref t), .val (.int (0 : Int32))] [(.int (0 : Int32)), (.ref t)]))
  refine own_via (fun _ k => XS.aloadN X79.here hx rfl (hb hby dt_18) rfl rfl k) ?_
  show own_G _ _ _ _ (T79.setTop (mkF m 19 #[.val (.ref a), .val (.ref t), .val (.int (0 : Int32))] [(.ref a), (.int (0 : Int32)), (.ref t)]))
  obtain ⟨T81, X81, e81, st81⟩ := getF X79 hx hZ hown (host := "") (Or.inl (hw _ (List.mem_of_getElem? (i := 21) rfl))) Via.refl e79 F_a_levelCounts (g := (mkF m 19 #[.val (.ref a), .val (.ref t), .val (.int (0 : Int32))] [(.ref a), (.int (0 : Int32)), (.ref t)])) rfl rfl (hb hby dt_19)
  refine own_via st81 ?_
  show own_G _ _ _ _ (T81.setTop (mkF m 22 #[.val (.ref a), .val (.ref t), .val (.int (0 : Int32))] [(.ref b2), (.int (0 : Int32)), (.ref t)]))
  refine own_via (fun _ k => XS.iloadN X81.here hx rfl (hb hby dt_22) rfl k) ?_
  show own_G _ _ _ _ (T81.setTop (mkF m 23 #[.val (.ref a), .val (.ref t), .val (.int (0 : Int32))] [(.int (0 : Int32)), (.ref b2), (.int (0 : Int32)), (.ref t)]))
  obtain ⟨cl82, Ar82, -, Sz82, Nn82, Hh82, -⟩ := id V_b2
  have hin82 : ¬ ((0 : Int32) < 0 ∨ cl82.slots.size ≤ ((0 : Int32)).toNatClampNeg) := inb_of Sz82 ⟨by decide, by decide⟩
  have hat82 : cl82.slots[((0 : Int32)).toNatClampNeg]? = some (.int c0) := Has.at Hh82 hin82 rfl
  refine own_via (fun _ k => X81.iaload hx (j := (0 : Int32)) (v := (.int c0)) (by rw [e81]; exact Ar82.1) (State.isArrayOf_alike hZ.alike Ar82.2.1) Ar82.2.2 hin82 hat82 (g := (mkF m 23 #[.val (.ref a), .val (.ref t), .val (.int (0 : Int32))] [(.int (0 : Int32)), (.ref b2), (.int (0 : Int32)), (.ref t)])) rfl rfl (hb hby dt_23) _ k) ?_
  show own_G _ _ _ _ (T81.setTop (mkF m 24 #[.val (.ref a), .val (.ref t), .val (.int (0 : Int32))] [(.int c0), (.int (0 : Int32)), (.ref t)]))
  refine own_via (fun _ k => XS.iconst X81.here hx rfl (hb hby dt_24) k) ?_
  show own_G _ _ _ _ (T81.setTop (mkF m 25 #[.val (.ref a), .val (.ref t), .val (.int (0 : Int32))] [(.int (1 : Int32)), (.int c0), (.int (0 : Int32)), (.ref t)]))
  refine own_via (fun _ k => XS.isub X81.here hx rfl (hb hby dt_25) rfl k) ?_
  show own_G _ _ _ _ (T81.setTop (mkF m 26 #[.val (.ref a), .val (.ref t), .val (.int (0 : Int32))] [(.int (c0 - (1 : Int32))), (.int (0 : Int32)), (.ref t)]))
  obtain ⟨cl_t, Ar_t, q_t, S_t, Nn_t, H_t, G_t⟩ := V_t
  have hin83 : ¬ ((0 : Int32) < 0 ∨ cl_t.slots.size ≤ ((0 : Int32)).toNatClampNeg) := inb_of S_t ⟨by decide, by decide⟩
  obtain ⟨T83, h83, X83, e83, W83, st83⟩ := stI X81 hx hZ e81 Ar_t (j := (0 : Int32)) hin83 (g := (mkF m 26 #[.val (.ref a), .val (.ref t), .val (.int (0 : Int32))] [(.int (c0 - (1 : Int32))), (.int (0 : Int32)), (.ref t)])) rfl rfl (hb hby dt_26)
  have V_t : Arv Z h83 t k_t .int (2 : Int32) ([(.int (c0 - (1 : Int32))), (.int (0 : Int32))] : List Value) (.int (0 : Int32)) := Arv.set Ar_t q_t S_t Nn_t H_t G_t rfl W83 0 rfl (Nat.le_of_ble_eq_true rfl)
  have F_a_levelCounts := F_a_levelCounts.other W83 (Or.inl ne_a_t)
  have V_b2 := V_b2.other W83 ne_b2_t
  have Z0 := Nat.le_trans Z0 (Keep.of_wr W83).1
  have K := K.wr W83 (Or.inr sz_t)
  have N83 := Fr.snoc X83 N0 g_t
  refine own_via st83 ?_
  show own_G _ _ _ _ (T83.setTop (mkF m 27 #[.val (.ref a), .val (.ref t), .val (.int (0 : Int32))] []))
  refine own_via (fun _ k => XS.iinc X83.here hx rfl (hb hby dt_27) rfl (l' := #[.val (.ref a), .val (.ref t), .val (.int ((0 : Int32) + (1 : Int32)))]) rfl k) ?_
  show own_G _ _ _ _ (T83.setTop (mkF m 30 #[.val (.ref a), .val (.ref t), .val (.int ((0 : Int32) + (1 : Int32)))] []))
  refine own_via (fun _ k => XS.goto X83.here hx rfl (pc0 := 30) (pc' := 10) rfl (hb hby dt_30) (by decide) (by decide) k) ?_
  show own_G _ _ _ _ (T83.setTop (mkF m 10 #[.val (.ref a), .val (.ref t), .val (.int ((0 : Int32) + (1 : Int32)))] []))
  refine own_via (fun _ k => XS.iloadN X83.here hx rfl (hb hby dt_10) rfl k) ?_
  show own_G _ _ _ _ (T83.setTop (mkF m 11 #[.val (.ref a), .val (.ref t), .val (.int ((0 : Int32) + (1 : Int32)))] [(.int ((0 : Int32) + (1 : Int32)))]))
  refine own_via (fun _ k => XS.aloadN X83.here hx rfl (hb hby dt_11) rfl rfl k) ?_
  show own_G _ _ _ _ (T83.setTop (mkF m 12 #[.val (.ref a), .val (.ref t), .val (.int ((0 : Int32) + (1 : Int32)))] [(.ref t), (.int ((0 : Int32) + (1 : Int32)))]))
  obtain ⟨cl84, Ar84, -, Sz84, Nn84, -, -⟩ := id V_t
  refine own_via (fun _ k => X83.arraylength hx (by rw [e83]; exact Ar84.1) (State.isArrayOf_alike hZ.alike Ar84.2.1) (g := (mkF m 12 #[.val (.ref a), .val (.ref t), .val (.int ((0 : Int32) + (1 : Int32)))] [(.ref t), (.int ((0 : Int32) + (1 : Int32)))])) rfl rfl (hb hby dt_12) _ k) ?_
  rw [len_of Sz84 Nn84]
  show own_G _ _ _ _ (T83.setTop (mkF m 13 #[.val (.ref a), .val (.ref t), .val (.int ((0 : Int32) + (1 : Int32)))] [(.int (2 : Int32)), (.int ((0 : Int32) + (1 : Int32)))]))
  refine own_via (fun _ k => XS.icmpNo X83.here hx rfl (hb hby dt_13) rfl (tlt (by decide)).2.1 k) ?_
  show own_G _ _ _ _ (T83.setTop (mkF m 16 #[.val (.ref a), .val (.ref t), .val (.int ((0 : Int32) + (1 : Int32)))] []))
  refine own_via (fun _ k => XS.aloadN X83.here hx rfl (hb hby dt_16) rfl rfl k) ?_
  show own_G _ _ _ _ (T83.setTop (mkF m 17 #[.val (.ref a), .val (.ref t), .val (.int ((0 : Int32) + (1 : Int32)))] [(.ref t)]))
  refine own_via (fun _ k => XS.iloadN X83.here hx rfl (hb hby dt_17) rfl k) ?_
  show own_G _ _ _ _ (T83.setTop (mkF m 18 #[.val (.ref a), .val (.ref t), .val (.int ((0 : Int32) + (1 : Int32)))] [(.int ((0 : Int32) + (1 : Int32))), (.ref t)]))
  refine own_via (fun _ k => XS.aloadN X83.here hx rfl (hb hby dt_18) rfl rfl k) ?_
  show own_G _ _ _ _ (T83.setTop (mkF m 19 #[.val (.ref a), .val (.ref t), .val (.int ((0 : Int32) + (1 : Int32)))] [(.ref a), (.int ((0 : Int32) + (1 : Int32))), (.ref t)]))
  obtain ⟨T85, X85, e85, st85⟩ := getF X83 hx hZ hown (host := "") (Or.inl (hw _ (List.mem_of_getElem? (i := 21) rfl))) Via.refl e83 F_a_levelCounts (g := (mkF m 19 #[.val (.ref a), .val (.ref t), .val (.int ((0 : Int32) + (1 : Int32)))] [(.ref a), (.int ((0 : Int32) + (1 : Int32))), (.ref t)])) rfl rfl (hb hby dt_19)
  refine own_via st85 ?_
  show own_G _ _ _ _ (T85.setTop (mkF m 22 #[.val (.ref a), .val (.ref t), .val (.int ((0 : Int32) + (1 : Int32)))] [(.ref b2), (.int ((0 : Int32) + (1 : Int32))), (.ref t)]))
  refine own_via (fun _ k => XS.iloadN X85.here hx rfl (hb hby dt_22) rfl k) ?_
  show own_G _ _ _ _ (T85.setTop (mkF m 23 #[.val (.ref a), .val (.ref t), .val (.int ((0 : Int32) + (1 : Int32)))] [(.int ((0 : Int32) + (1 : Int32))), (.ref b2), (.int ((0 : Int32) + (1 : Int32))), (.ref t)]))
  obtain ⟨cl86, Ar86, -, Sz86, Nn86, Hh86, -⟩ := id V_b2
  have hin86 : ¬ (((0 : Int32) + (1 : Int32)) < 0 ∨ cl86.slots.size ≤ (((0 : Int32) + (1 : Int32))).toNatClampNeg) := inb_of Sz86 ⟨by decide, by decide⟩
  have hat86 : cl86.slots[(((0 : Int32) + (1 : Int32))).toNatClampNeg]? = some (.int c1) := Has.at Hh86 hin86 rfl
  refine own_via (fun _ k => X85.iaload hx (j := ((0 : Int32) + (1 : Int32))) (v := (.int c1)) (by rw [e85]; exact Ar86.1) (State.isArrayOf_alike hZ.alike Ar86.2.1) Ar86.2.2 hin86 hat86 (g := (mkF m 23 #[.val (.ref a), .val (.ref t), .val (.int ((0 : Int32) + (1 : Int32)))] [(.int ((0 : Int32) + (1 : Int32))), (.ref b2), (.int ((0 : Int32) + (1 : Int32))), (.ref t)])) rfl rfl (hb hby dt_23) _ k) ?_
  show own_G _ _ _ _ (T85.setTop (mkF m 24 #[.val (.ref a), .val (.ref t), .val (.int ((0 : Int32) + (1 : Int32)))] [(.int c1), (.int ((0 : Int32) + (1 : Int32))), (.ref t)]))
  refine own_via (fun _ k => XS.iconst X85.here hx rfl (hb hby dt_24) k) ?_
  show own_G _ _ _ _ (T85.setTop (mkF m 25 #[.val (.ref a), .val (.ref t), .val (.int ((0 : Int32) + (1 : Int32)))] [(.int (1 : Int32)), (.int c1), (.int ((0 : Int32) + (1 : Int32))), (.ref t)]))
  refine own_via (fun _ k => XS.isub X85.here hx rfl (hb hby dt_25) rfl k) ?_
  show own_G _ _ _ _ (T85.setTop (mkF m 26 #[.val (.ref a), .val (.ref t), .val (.int ((0 : Int32) + (1 : Int32)))] [(.int (c1 - (1 : Int32))), (.int ((0 : Int32) + (1 : Int32))), (.ref t)]))
  obtain ⟨cl_t, Ar_t, q_t, S_t, Nn_t, H_t, G_t⟩ := V_t
  have hin87 : ¬ (((0 : Int32) + (1 : Int32)) < 0 ∨ cl_t.slots.size ≤ (((0 : Int32) + (1 : Int32))).toNatClampNeg) := inb_of S_t ⟨by decide, by decide⟩
  obtain ⟨T87, h87, X87, e87, W87, st87⟩ := stI X85 hx hZ e85 Ar_t (j := ((0 : Int32) + (1 : Int32))) hin87 (g := (mkF m 26 #[.val (.ref a), .val (.ref t), .val (.int ((0 : Int32) + (1 : Int32)))] [(.int (c1 - (1 : Int32))), (.int ((0 : Int32) + (1 : Int32))), (.ref t)])) rfl rfl (hb hby dt_26)
  have V_t : Arv Z h87 t k_t .int (2 : Int32) ([(.int (c0 - (1 : Int32))), (.int (c1 - (1 : Int32)))] : List Value) (.int (0 : Int32)) := Arv.set Ar_t q_t S_t Nn_t H_t G_t rfl W87 1 rfl (Nat.le_of_ble_eq_true rfl)
  have F_a_levelCounts := F_a_levelCounts.other W87 (Or.inl ne_a_t)
  have V_b2 := V_b2.other W87 ne_b2_t
  have Z0 := Nat.le_trans Z0 (Keep.of_wr W87).1
  have K := K.wr W87 (Or.inr sz_t)
  have N87 := Fr.snoc X87 N83 g_t
  refine own_via st87 ?_
  show own_G _ _ _ _ (T87.setTop (mkF m 27 #[.val (.ref a), .val (.ref t), .val (.int ((0 : Int32) + (1 : Int32)))] []))
  refine own_via (fun _ k => XS.iinc X87.here hx rfl (hb hby dt_27) rfl (l' := #[.val (.ref a), .val (.ref t), .val (.int (((0 : Int32) + (1 : Int32)) + (1 : Int32)))]) rfl k) ?_
  show own_G _ _ _ _ (T87.setTop (mkF m 30 #[.val (.ref a), .val (.ref t), .val (.int (((0 : Int32) + (1 : Int32)) + (1 : Int32)))] []))
  refine own_via (fun _ k => XS.goto X87.here hx rfl (pc0 := 30) (pc' := 10) rfl (hb hby dt_30) (by decide) (by decide) k) ?_
  show own_G _ _ _ _ (T87.setTop (mkF m 10 #[.val (.ref a), .val (.ref t), .val (.int (((0 : Int32) + (1 : Int32)) + (1 : Int32)))] []))
  refine own_via (fun _ k => XS.iloadN X87.here hx rfl (hb hby dt_10) rfl k) ?_
  show own_G _ _ _ _ (T87.setTop (mkF m 11 #[.val (.ref a), .val (.ref t), .val (.int (((0 : Int32) + (1 : Int32)) + (1 : Int32)))] [(.int (((0 : Int32) + (1 : Int32)) + (1 : Int32)))]))
  refine own_via (fun _ k => XS.aloadN X87.here hx rfl (hb hby dt_11) rfl rfl k) ?_
  show own_G _ _ _ _ (T87.setTop (mkF m 12 #[.val (.ref a), .val (.ref t), .val (.int (((0 : Int32) + (1 : Int32)) + (1 : Int32)))] [(.ref t), (.int (((0 : Int32) + (1 : Int32)) + (1 : Int32)))]))
  obtain ⟨cl88, Ar88, -, Sz88, Nn88, -, -⟩ := id V_t
  refine own_via (fun _ k => X87.arraylength hx (by rw [e87]; exact Ar88.1) (State.isArrayOf_alike hZ.alike Ar88.2.1) (g := (mkF m 12 #[.val (.ref a), .val (.ref t), .val (.int (((0 : Int32) + (1 : Int32)) + (1 : Int32)))] [(.ref t), (.int (((0 : Int32) + (1 : Int32)) + (1 : Int32)))])) rfl rfl (hb hby dt_12) _ k) ?_
  rw [len_of Sz88 Nn88]
  show own_G _ _ _ _ (T87.setTop (mkF m 13 #[.val (.ref a), .val (.ref t), .val (.int (((0 : Int32) + (1 : Int32)) + (1 : Int32)))] [(.int (2 : Int32)), (.int (((0 : Int32) + (1 : Int32)) + (1 : Int32)))]))
  refine own_via (fun _ k => XS.icmpYes X87.here hx rfl (pc0 := 13) (pc' := 33) rfl (hb hby dt_13) rfl (flt (by decide)).2.1 (by decide) (by decide) k) ?_
  show own_G _ _ _ _ (T87.setTop (mkF m 33 #[.val (.ref a), .val (.ref t), .val (.int (((0 : Int32) + (1 : Int32)) + (1 : Int32)))] []))
  refine own_via (fun _ k => XS.aloadN X87.here hx rfl (hb hby dt_33) rfl rfl k) ?_
  show own_G _ _ _ _ (T87.setTop (mkF m 34 #[.val (.ref a), .val (.ref t), .val (.int (((0 : Int32) + (1 : Int32)) + (1 : Int32)))] [(.ref t)]))
  obtain ⟨fs, hr, hrun, hended, hW, hsame⟩ := X87.leave (v := some (.ref t)) (fun h => by rw [Bd.returns] at h; cases h)
  refine ⟨_, _, ?_, hrun, hended, _, _, rfl, ?_, ⟨_, rfl⟩, hW, hsame.mono (by decide) (by decide)⟩
  · jvm_step X87.here [X87.here.top, hx, (hb hby dt_34), X87.method', Bd.returns, Value.isRef, FieldType.isReference]
    first | (intro acts; rw [hr _ acts rfl rfl rfl]) | rw [hr _ _ rfl rfl rfl]
    exact Steps.refl _
  · show Qt2 Z a b2 kk0 c0 c1 h0 n0 _ T87.heap _
    rw [e87]
    exact ⟨t, _, rfl, N87, K, V_t⟩
theorem pn_t3 : plainName "com/example/vanon/vanon/lattice/Lattice" = true := by first | (simp [plainName, overriddenIn]; done) | decide +kernel
theorem ef_t3 (m : MethodId) (a : Addr) : entryFrame m #[(.ref a)] 3 = (mkF m 0 #[.val (.ref a), .unset, .unset] []) := by first | (simp [entryFrame, mkF, argsToLocals, Value.category]; done) | rfl
def Qt3 (Z : State) (a : Addr) (b2 : Addr) (kk0 : ClassId) (c0 : Int32) (c1 : Int32) (c2 : Int32) (h0 : Heap) (n0 : Nat) (v : Option Value) (h : Heap) (L : List Loc) : Prop := ∃ (t : Addr) (kt : ClassId), v = some (.ref t) ∧ Fr n0 L ∧ Keep h0 h [] ∧ Arv Z h t kt .int (3 : Int32) ([(.int (c0 - (1 : Int32))), (.int (c1 - (1 : Int32))), (.int (c2 - (1 : Int32)))] : List Value) (.int (0 : Int32))
set_option maxRecDepth 65536 in
set_option maxHeartbeats 40000000 in
theorem rmt3 (l : Launch) (Z : State) (a0 : Array Value) (hw : ∀ d ∈ tables_1, d.before a0 Z = true) (ws : List Jvm.Cond) (a : Addr) (b2 : Addr) (kk0 : ClassId) (c0 : Int32) (c1 : Int32) (c2 : Int32) (h0 : Heap) (n0 : Nat) (Z0 : n0 ≤ h0.size) (F_a_levelCounts : Fld Z h0 a "com/example/vanon/vanon/lattice/Lattice" "levelCounts" "[I" (.ref b2)) (V_b2 : Arv Z h0 b2 kk0 .int (3 : Int32) ([(.int c0), (.int c1), (.int c2)] : List Value) (.int (0 : Int32))) :
    MetFree l (⟨"com/example/vanon/vanon/lattice/Lattice", "top", "()[I"⟩ : MethodName) (head1 (Jvm.Cond.code (⟨"com/example/vanon/vanon/lattice/Lattice", "top", "()[I"⟩ : MethodName) prog_16_method_6_code 3 (some (.array .int)) :: ws) ({ frames := 0, cells := 1, slots := 3, locals := 0 } : Room)) (fun as' U => as' = #[(.ref a)] ∧ Z.Warmed39 U.vm ∧ U.heap = h0) (fun _ _ _ _ _ => True) (fun _ U o U' => ∃ v L, o = .returned v ∧ Qt3 Z a b2 kk0 c0 c1 c2 h0 n0 v U'.heap L ∧ FrameEnd U o U' L ({ frames := 0, cells := 1, slots := 3, locals := 0 } : Room).cells ({ frames := 0, cells := 1, slots := 3, locals := 0 } : Room).slots) := by
  refine MetFree.of_bodySF (plainFor_of_name pn_t3) hisR ?_
  intro p e s m args below meth c s₁ Bd hml0 hP hK
  obtain ⟨rfl, hZ, hh⟩ := hP
  have hx := Bd.exec
  have hby := Bd.bytes
  have hml : c.maxLocals = 3 := hml0
  have hown : s.vm.findClass "com/example/vanon/vanon/lattice/Lattice" = some m.cls := findClass_of_methodNamed Bd.named
  have hnm := (name_of_methodNamed Bd.named Bd.method).1
  have X0 : Stand p l e ({ frames := 0, cells := 1, slots := 3, locals := 0 } : Room) s m #[(.ref a)] below meth c s₁ [] 0 0 := Stand.of_body Bd
  have e0 : s₁.heap = h0 := by rw [← hh, Bd.state]; rfl
  have N0 := Fr.nil n0
  have K : Keep h0 h0 [] := Keep.refl _ _
  refine own_via (fun t k => castTop (ef_t3 m a) k) ?_
  show own_G _ _ _ _ (s₁.setTop (mkF m 0 #[.val (.ref a), .unset, .unset] []))
  refine own_via (fun _ k => XS.aloadN X0.here hx rfl (hb hby dt_0) rfl rfl k) ?_
  show own_G _ _ _ _ (s₁.setTop (mkF m 1 #[.val (.ref a), .unset, .unset] [(.ref a)]))
  obtain ⟨T89, X89, e89, st89⟩ := getF X0 hx hZ hown (host := "") (Or.inl (hw _ (List.mem_of_getElem? (i := 21) rfl))) Via.refl e0 F_a_levelCounts (g := (mkF m 1 #[.val (.ref a), .unset, .unset] [(.ref a)])) rfl rfl (hb hby dt_1)
  refine own_via st89 ?_
  show own_G _ _ _ _ (T89.setTop (mkF m 4 #[.val (.ref a), .unset, .unset] [(.ref b2)]))
  obtain ⟨cl90, Ar90, -, Sz90, Nn90, -, -⟩ := id V_b2
  refine own_via (fun _ k => X89.arraylength hx (by rw [e89]; exact Ar90.1) (State.isArrayOf_alike hZ.alike Ar90.2.1) (g := (mkF m 4 #[.val (.ref a), .unset, .unset] [(.ref b2)])) rfl rfl (hb hby dt_4) _ k) ?_
  rw [len_of Sz90 Nn90]
  show own_G _ _ _ _ (T89.setTop (mkF m 5 #[.val (.ref a), .unset, .unset] [(.int (3 : Int32))]))
  obtain ⟨T91, h91, k_t, X91, e91, E91, A91, st91⟩ := newP X89 hx hZ (hw _ (List.mem_of_getElem? (i := 2) rfl)) e89 (g := (mkF m 5 #[.val (.ref a), .unset, .unset] [(.int (3 : Int32))])) rfl (hb hby dt_5) rfl (by decide) (cap := 3) (by decide) (by decide) (by decide) (by decide)
  obtain ⟨t, g91⟩ : ∃ z, z = h0.size := ⟨_, rfl⟩
  rw [← g91] at A91 st91
  have g_t : n0 ≤ t := Nat.le_trans Z0 (Nat.le_of_eq g91.symm)
  have sz_t : h0.size ≤ t := Nat.le_trans K.1 (Nat.le_of_eq g91.symm)
  have ne_a_t : a ≠ t := Nat.ne_of_lt (Nat.lt_of_lt_of_le F_a_levelCounts.lt (Nat.le_of_eq g91.symm))
  have ne_b2_t : b2 ≠ t := Nat.ne_of_lt (Nat.lt_of_lt_of_le V_b2.lt (Nat.le_of_eq g91.symm))
  have F_a_levelCounts := F_a_levelCounts.ext E91
  have V_b2 := V_b2.ext E91
  have Z0 := Nat.le_trans Z0 E91.1
  have K := K.ext E91
  have V_t : Arv Z h91 t k_t .int (3 : Int32) [(.int (0 : Int32)), (.int (0 : Int32)), (.int (0 : Int32))] (.int (0 : Int32)) := (Arv.new A91 (by decide)).pad (pad_rep [] (.int (0 : Int32)) 3)
  refine own_via st91 ?_
  show own_G _ _ _ _ (T91.setTop (mkF m 7 #[.val (.ref a), .unset, .unset] [(.ref t)]))
  refine own_via (fun _ k => XS.astoreN X91.here hx rfl (hb hby dt_7) rfl rfl (l' := #[.val (.ref a), .val (.ref t), .unset]) rfl k) ?_
  show own_G _ _ _ _ (T91.setTop (mkF m 8 #[.val (.ref a), .val (.ref t), .unset] []))
  refine own_via (fun _ k => XS.iconst X91.here hx rfl (hb hby dt_8) k) ?_
  show own_G _ _ _ _ (T91.setTop (mkF m 9 #[.val (.ref a), .val (.ref t), .unset] [(.int (0 : Int32))]))
  refine own_via (fun _ k => XS.istoreN X91.here hx rfl (hb hby dt_9) rfl (l' := #[.val (.ref a), .val (.ref t), .val (.int (0 : Int32))]) rfl k) ?_
  show own_G _ _ _ _ (T91.setTop (mkF m 10 #[.val (.ref a), .val (.ref t), .val (.int (0 : Int32))] []))
  refine own_via (fun _ k => XS.iloadN X91.here hx rfl (hb hby dt_10) rfl k) ?_
  show own_G _ _ _ _ (T91.setTop (mkF m 11 #[.val (.ref a), .val (.ref t), .val (.int (0 : Int32))] [(.int (0 : Int32))]))
  refine own_via (fun _ k => XS.aloadN X91.here hx rfl (hb hby dt_11) rfl rfl k) ?_
  show own_G _ _ _ _ (T91.setTop (mkF m 12 #[.val (.ref a), .val (.ref t), .val (.int (0 : Int32))] [(.ref t), (.int (0 : Int32))]))
  obtain ⟨cl92, Ar92, -, Sz92, Nn92, -, -⟩ := id V_t
  refine own_via (fun _ k => X91.arraylength hx (by rw [e91]; exact Ar92.1) (State.isArrayOf_alike hZ.alike Ar92.2.1) (g := (mkF m 12 #[.val (.ref a), .val (.ref t), .val (.int (0 : Int32))] [(.ref t), (.int (0 : Int32))])) rfl rfl (hb hby dt_12) _ k) ?_
  rw [len_of Sz92 Nn92]
  show own_G _ _ _ _ (T91.setTop (mkF m 13 #[.val (.ref a), .val (.ref t), .val (.int (0 : Int32))] [(.int (3 : Int32)), (.int (0 : Int32))]))
  refine own_via (fun _ k => XS.icmpNo X91.here hx rfl (hb hby dt_13) rfl (tlt (by decide)).2.1 k) ?_
  show own_G _ _ _ _ (T91.setTop (mkF m 16 #[.val (.ref a), .val (.ref t), .val (.int (0 : Int32))] []))
  refine own_via (fun _ k => XS.aloadN X91.here hx rfl (hb hby dt_16) rfl rfl k) ?_
  show own_G _ _ _ _ (T91.setTop (mkF m 17 #[.val (.ref a), .val (.ref t), .val (.int (0 : Int32))] [(.ref t)]))
  refine own_via (fun _ k => XS.iloadN X91.here hx rfl (hb hby dt_17) rfl k) ?_
  show own_G _ _ _ _ (T91.setTop (mkF m 18 #[.val (.ref a), .val (.ref t), .val (.int (0 : Int32))] [(.int (0 : Int32)), (.ref t)]))
  refine own_via (fun _ k => XS.aloadN X91.here hx rfl (hb hby dt_18) rfl rfl k) ?_
  show own_G _ _ _ _ (T91.setTop (mkF m 19 #[.val (.ref a), .val (.ref t), .val (.int (0 : Int32))] [(.ref a), (.int (0 : Int32)), (.ref t)]))
  obtain ⟨T93, X93, e93, st93⟩ := getF X91 hx hZ hown (host := "") (Or.inl (hw _ (List.mem_of_getElem? (i := 21) rfl))) Via.refl e91 F_a_levelCounts (g := (mkF m 19 #[.val (.ref a), .val (.ref t), .val (.int (0 : Int32))] [(.ref a), (.int (0 : Int32)), (.ref t)])) rfl rfl (hb hby dt_19)
  refine own_via st93 ?_
  show own_G _ _ _ _ (T93.setTop (mkF m 22 #[.val (.ref a), .val (.ref t), .val (.int (0 : Int32))] [(.ref b2), (.int (0 : Int32)), (.ref t)]))
  refine own_via (fun _ k => XS.iloadN X93.here hx rfl (hb hby dt_22) rfl k) ?_
  show own_G _ _ _ _ (T93.setTop (mkF m 23 #[.val (.ref a), .val (.ref t), .val (.int (0 : Int32))] [(.int (0 : Int32)), (.ref b2), (.int (0 : Int32)), (.ref t)]))
  obtain ⟨cl94, Ar94, -, Sz94, Nn94, Hh94, -⟩ := id V_b2
  have hin94 : ¬ ((0 : Int32) < 0 ∨ cl94.slots.size ≤ ((0 : Int32)).toNatClampNeg) := inb_of Sz94 ⟨by decide, by decide⟩
  have hat94 : cl94.slots[((0 : Int32)).toNatClampNeg]? = some (.int c0) := Has.at Hh94 hin94 rfl
  refine own_via (fun _ k => X93.iaload hx (j := (0 : Int32)) (v := (.int c0)) (by rw [e93]; exact Ar94.1) (State.isArrayOf_alike hZ.alike Ar94.2.1) Ar94.2.2 hin94 hat94 (g := (mkF m 23 #[.val (.ref a), .val (.ref t), .val (.int (0 : Int32))] [(.int (0 : Int32)), (.ref b2), (.int (0 : Int32)), (.ref t)])) rfl rfl (hb hby dt_23) _ k) ?_
  show own_G _ _ _ _ (T93.setTop (mkF m 24 #[.val (.ref a), .val (.ref t), .val (.int (0 : Int32))] [(.int c0), (.int (0 : Int32)), (.ref t)]))
  refine own_via (fun _ k => XS.iconst X93.here hx rfl (hb hby dt_24) k) ?_
  show own_G _ _ _ _ (T93.setTop (mkF m 25 #[.val (.ref a), .val (.ref t), .val (.int (0 : Int32))] [(.int (1 : Int32)), (.int c0), (.int (0 : Int32)), (.ref t)]))
  refine own_via (fun _ k => XS.isub X93.here hx rfl (hb hby dt_25) rfl k) ?_
  show own_G _ _ _ _ (T93.setTop (mkF m 26 #[.val (.ref a), .val (.ref t), .val (.int (0 : Int32))] [(.int (c0 - (1 : Int32))), (.int (0 : Int32)), (.ref t)]))
  obtain ⟨cl_t, Ar_t, q_t, S_t, Nn_t, H_t, G_t⟩ := V_t
  have hin95 : ¬ ((0 : Int32) < 0 ∨ cl_t.slots.size ≤ ((0 : Int32)).toNatClampNeg) := inb_of S_t ⟨by decide, by decide⟩
  obtain ⟨T95, h95, X95, e95, W95, st95⟩ := stI X93 hx hZ e93 Ar_t (j := (0 : Int32)) hin95 (g := (mkF m 26 #[.val (.ref a), .val (.ref t), .val (.int (0 : Int32))] [(.int (c0 - (1 : Int32))), (.int (0 : Int32)), (.ref t)])) rfl rfl (hb hby dt_26)
  have V_t : Arv Z h95 t k_t .int (3 : Int32) ([(.int (c0 - (1 : Int32))), (.int (0 : Int32)), (.int (0 : Int32))] : List Value) (.int (0 : Int32)) := Arv.set Ar_t q_t S_t Nn_t H_t G_t rfl W95 0 rfl (Nat.le_of_ble_eq_true rfl)
  have F_a_levelCounts := F_a_levelCounts.other W95 (Or.inl ne_a_t)
  have V_b2 := V_b2.other W95 ne_b2_t
  have Z0 := Nat.le_trans Z0 (Keep.of_wr W95).1
  have K := K.wr W95 (Or.inr sz_t)
  have N95 := Fr.snoc X95 N0 g_t
  refine own_via st95 ?_
  show own_G _ _ _ _ (T95.setTop (mkF m 27 #[.val (.ref a), .val (.ref t), .val (.int (0 : Int32))] []))
  refine own_via (fun _ k => XS.iinc X95.here hx rfl (hb hby dt_27) rfl (l' := #[.val (.ref a), .val (.ref t), .val (.int ((0 : Int32) + (1 : Int32)))]) rfl k) ?_
  show own_G _ _ _ _ (T95.setTop (mkF m 30 #[.val (.ref a), .val (.ref t), .val (.int ((0 : Int32) + (1 : Int32)))] []))
  refine own_via (fun _ k => XS.goto X95.here hx rfl (pc0 := 30) (pc' := 10) rfl (hb hby dt_30) (by decide) (by decide) k) ?_
  show own_G _ _ _ _ (T95.setTop (mkF m 10 #[.val (.ref a), .val (.ref t), .val (.int ((0 : Int32) + (1 : Int32)))] []))
  refine own_via (fun _ k => XS.iloadN X95.here hx rfl (hb hby dt_10) rfl k) ?_
  show own_G _ _ _ _ (T95.setTop (mkF m 11 #[.val (.ref a), .val (.ref t), .val (.int ((0 : Int32) + (1 : Int32)))] [(.int ((0 : Int32) + (1 : Int32)))]))
  refine own_via (fun _ k => XS.aloadN X95.here hx rfl (hb hby dt_11) rfl rfl k) ?_
  show own_G _ _ _ _ (T95.setTop (mkF m 12 #[.val (.ref a), .val (.ref t), .val (.int ((0 : Int32) + (1 : Int32)))] [(.ref t), (.int ((0 : Int32) + (1 : Int32)))]))
  obtain ⟨cl96, Ar96, -, Sz96, Nn96, -, -⟩ := id V_t
  refine own_via (fun _ k => X95.arraylength hx (by rw [e95]; exact Ar96.1) (State.isArrayOf_alike hZ.alike Ar96.2.1) (g := (mkF m 12 #[.val (.ref a), .val (.ref t), .val (.int ((0 : Int32) + (1 : Int32)))] [(.ref t), (.int ((0 : Int32) + (1 : Int32)))])) rfl rfl (hb hby dt_12) _ k) ?_
  rw [len_of Sz96 Nn96]
  show own_G _ _ _ _ (T95.setTop (mkF m 13 #[.val (.ref a), .val (.ref t), .val (.int ((0 : Int32) + (1 : Int32)))] [(.int (3 : Int32)), (.int ((0 : Int32) + (1 : Int32)))]))
  refine own_via (fun _ k => XS.icmpNo X95.here hx rfl (hb hby dt_13) rfl (tlt (by decide)).2.1 k) ?_
  show own_G _ _ _ _ (T95.setTop (mkF m 16 #[.val (.ref a), .val (.ref t), .val (.int ((0 : Int32) + (1 : Int32)))] []))
  refine own_via (fun _ k => XS.aloadN X95.here hx rfl (hb hby dt_16) rfl rfl k) ?_
  show own_G _ _ _ _ (T95.setTop (mkF m 17 #[.val (.ref a), .val (.ref t), .val (.int ((0 : Int32) + (1 : Int32)))] [(.ref t)]))
  refine own_via (fun _ k => XS.iloadN X95.here hx rfl (hb hby dt_17) rfl k) ?_
  show own_G _ _ _ _ (T95.setTop (mkF m 18 #[.val (.ref a), .val (.ref t), .val (.int ((0 : Int32) + (1 : Int32)))] [(.int ((0 : Int32) + (1 : Int32))), (.ref t)]))
  refine own_via (fun _ k => XS.aloadN X95.here hx rfl (hb hby dt_18) rfl rfl k) ?_
  show own_G _ _ _ _ (T95.setTop (mkF m 19 #[.val (.ref a), .val (.ref t), .val (.int ((0 : Int32) + (1 : Int32)))] [(.ref a), (.int ((0 : Int32) + (1 : Int32))), (.ref t)]))
  obtain ⟨T97, X97, e97, st97⟩ := getF X95 hx hZ hown (host := "") (Or.inl (hw _ (List.mem_of_getElem? (i := 21) rfl))) Via.refl e95 F_a_levelCounts (g := (mkF m 19 #[.val (.ref a), .val (.ref t), .val (.int ((0 : Int32) + (1 : Int32)))] [(.ref a), (.int ((0 : Int32) + (1 : Int32))), (.ref t)])) rfl rfl (hb hby dt_19)
  refine own_via st97 ?_
  show own_G _ _ _ _ (T97.setTop (mkF m 22 #[.val (.ref a), .val (.ref t), .val (.int ((0 : Int32) + (1 : Int32)))] [(.ref b2), (.int ((0 : Int32) + (1 : Int32))), (.ref t)]))
  refine own_via (fun _ k => XS.iloadN X97.here hx rfl (hb hby dt_22) rfl k) ?_
  show own_G _ _ _ _ (T97.setTop (mkF m 23 #[.val (.ref a), .val (.ref t), .val (.int ((0 : Int32) + (1 : Int32)))] [(.int ((0 : Int32) + (1 : Int32))), (.ref b2), (.int ((0 : Int32) + (1 : Int32))), (.ref t)]))
  obtain ⟨cl98, Ar98, -, Sz98, Nn98, Hh98, -⟩ := id V_b2
  have hin98 : ¬ (((0 : Int32) + (1 : Int32)) < 0 ∨ cl98.slots.size ≤ (((0 : Int32) + (1 : Int32))).toNatClampNeg) := inb_of Sz98 ⟨by decide, by decide⟩
  have hat98 : cl98.slots[(((0 : Int32) + (1 : Int32))).toNatClampNeg]? = some (.int c1) := Has.at Hh98 hin98 rfl
  refine own_via (fun _ k => X97.iaload hx (j := ((0 : Int32) + (1 : Int32))) (v := (.int c1)) (by rw [e97]; exact Ar98.1) (State.isArrayOf_alike hZ.alike Ar98.2.1) Ar98.2.2 hin98 hat98 (g := (mkF m 23 #[.val (.ref a), .val (.ref t), .val (.int ((0 : Int32) + (1 : Int32)))] [(.int ((0 : Int32) + (1 : Int32))), (.ref b2), (.int ((0 : Int32) + (1 : Int32))), (.ref t)])) rfl rfl (hb hby dt_23) _ k) ?_
  show own_G _ _ _ _ (T97.setTop (mkF m 24 #[.val (.ref a), .val (.ref t), .val (.int ((0 : Int32) + (1 : Int32)))] [(.int c1), (.int ((0 : Int32) + (1 : Int32))), (.ref t)]))
  refine own_via (fun _ k => XS.iconst X97.here hx rfl (hb hby dt_24) k) ?_
  show own_G _ _ _ _ (T97.setTop (mkF m 25 #[.val (.ref a), .val (.ref t), .val (.int ((0 : Int32) + (1 : Int32)))] [(.int (1 : Int32)), (.int c1), (.int ((0 : Int32) + (1 : Int32))), (.ref t)]))
  refine own_via (fun _ k => XS.isub X97.here hx rfl (hb hby dt_25) rfl k) ?_
  show own_G _ _ _ _ (T97.setTop (mkF m 26 #[.val (.ref a), .val (.ref t), .val (.int ((0 : Int32) + (1 : Int32)))] [(.int (c1 - (1 : Int32))), (.int ((0 : Int32) + (1 : Int32))), (.ref t)]))
  obtain ⟨cl_t, Ar_t, q_t, S_t, Nn_t, H_t, G_t⟩ := V_t
  have hin99 : ¬ (((0 : Int32) + (1 : Int32)) < 0 ∨ cl_t.slots.size ≤ (((0 : Int32) + (1 : Int32))).toNatClampNeg) := inb_of S_t ⟨by decide, by decide⟩
  obtain ⟨T99, h99, X99, e99, W99, st99⟩ := stI X97 hx hZ e97 Ar_t (j := ((0 : Int32) + (1 : Int32))) hin99 (g := (mkF m 26 #[.val (.ref a), .val (.ref t), .val (.int ((0 : Int32) + (1 : Int32)))] [(.int (c1 - (1 : Int32))), (.int ((0 : Int32) + (1 : Int32))), (.ref t)])) rfl rfl (hb hby dt_26)
  have V_t : Arv Z h99 t k_t .int (3 : Int32) ([(.int (c0 - (1 : Int32))), (.int (c1 - (1 : Int32))), (.int (0 : Int32))] : List Value) (.int (0 : Int32)) := Arv.set Ar_t q_t S_t Nn_t H_t G_t rfl W99 1 rfl (Nat.le_of_ble_eq_true rfl)
  have F_a_levelCounts := F_a_levelCounts.other W99 (Or.inl ne_a_t)
  have V_b2 := V_b2.other W99 ne_b2_t
  have Z0 := Nat.le_trans Z0 (Keep.of_wr W99).1
  have K := K.wr W99 (Or.inr sz_t)
  have N99 := Fr.snoc X99 N95 g_t
  refine own_via st99 ?_
  show own_G _ _ _ _ (T99.setTop (mkF m 27 #[.val (.ref a), .val (.ref t), .val (.int ((0 : Int32) + (1 : Int32)))] []))
  refine own_via (fun _ k => XS.iinc X99.here hx rfl (hb hby dt_27) rfl (l' := #[.val (.ref a), .val (.ref t), .val (.int (((0 : Int32) + (1 : Int32)) + (1 : Int32)))]) rfl k) ?_
  show own_G _ _ _ _ (T99.setTop (mkF m 30 #[.val (.ref a), .val (.ref t), .val (.int (((0 : Int32) + (1 : Int32)) + (1 : Int32)))] []))
  refine own_via (fun _ k => XS.goto X99.here hx rfl (pc0 := 30) (pc' := 10) rfl (hb hby dt_30) (by decide) (by decide) k) ?_
  show own_G _ _ _ _ (T99.setTop (mkF m 10 #[.val (.ref a), .val (.ref t), .val (.int (((0 : Int32) + (1 : Int32)) + (1 : Int32)))] []))
  refine own_via (fun _ k => XS.iloadN X99.here hx rfl (hb hby dt_10) rfl k) ?_
  show own_G _ _ _ _ (T99.setTop (mkF m 11 #[.val (.ref a), .val (.ref t), .val (.int (((0 : Int32) + (1 : Int32)) + (1 : Int32)))] [(.int (((0 : Int32) + (1 : Int32)) + (1 : Int32)))]))
  refine own_via (fun _ k => XS.aloadN X99.here hx rfl (hb hby dt_11) rfl rfl k) ?_
  show own_G _ _ _ _ (T99.setTop (mkF m 12 #[.val (.ref a), .val (.ref t), .val (.int (((0 : Int32) + (1 : Int32)) + (1 : Int32)))] [(.ref t), (.int (((0 : Int32) + (1 : Int32)) + (1 : Int32)))]))
  obtain ⟨cl100, Ar100, -, Sz100, Nn100, -, -⟩ := id V_t
  refine own_via (fun _ k => X99.arraylength hx (by rw [e99]; exact Ar100.1) (State.isArrayOf_alike hZ.alike Ar100.2.1) (g := (mkF m 12 #[.val (.ref a), .val (.ref t), .val (.int (((0 : Int32) + (1 : Int32)) + (1 : Int32)))] [(.ref t), (.int (((0 : Int32) + (1 : Int32)) + (1 : Int32)))])) rfl rfl (hb hby dt_12) _ k) ?_
  rw [len_of Sz100 Nn100]
  show own_G _ _ _ _ (T99.setTop (mkF m 13 #[.val (.ref a), .val (.ref t), .val (.int (((0 : Int32) + (1 : Int32)) + (1 : Int32)))] [(.int (3 : Int32)), (.int (((0 : Int32) + (1 : Int32)) + (1 : Int32)))]))
  refine own_via (fun _ k => XS.icmpNo X99.here hx rfl (hb hby dt_13) rfl (tlt (by decide)).2.1 k) ?_
  show own_G _ _ _ _ (T99.setTop (mkF m 16 #[.val (.ref a), .val (.ref t), .val (.int (((0 : Int32) + (1 : Int32)) + (1 : Int32)))] []))
  refine own_via (fun _ k => XS.aloadN X99.here hx rfl (hb hby dt_16) rfl rfl k) ?_
  show own_G _ _ _ _ (T99.setTop (mkF m 17 #[.val (.ref a), .val (.ref t), .val (.int (((0 : Int32) + (1 : Int32)) + (1 : Int32)))] [(.ref t)]))
  refine own_via (fun _ k => XS.iloadN X99.here hx rfl (hb hby dt_17) rfl k) ?_
  show own_G _ _ _ _ (T99.setTop (mkF m 18 #[.val (.ref a), .val (.ref t), .val (.int (((0 : Int32) + (1 : Int32)) + (1 : Int32)))] [(.int (((0 : Int32) + (1 : Int32)) + (1 : Int32))), (.ref t)]))
  refine own_via (fun _ k => XS.aloadN X99.here hx rfl (hb hby dt_18) rfl rfl k) ?_
  show own_G _ _ _ _ (T99.setTop (mkF m 19 #[.val (.ref a), .val (.ref t), .val (.int (((0 : Int32) + (1 : Int32)) + (1 : Int32)))] [(.ref a), (.int (((0 : Int32) + (1 : Int32)) + (1 : Int32))), (.ref t)]))
  obtain ⟨T101, X101, e101, st101⟩ := getF X99 hx hZ hown (host := "") (Or.inl (hw _ (List.mem_of_getElem? (i := 21) rfl))) Via.refl e99 F_a_levelCounts (g := (mkF m 19 #[.val (.ref a), .val (.ref t), .val (.int (((0 : Int32) + (1 : Int32)) + (1 : Int32)))] [(.ref a), (.int (((0 : Int32) + (1 : Int32)) + (1 : Int32))), (.ref t)])) rfl rfl (hb hby dt_19)
  refine own_via st101 ?_
  show own_G _ _ _ _ (T101.setTop (mkF m 22 #[.val (.ref a), .val (.ref t), .val (.int (((0 : Int32) + (1 : Int32)) + (1 : Int32)))] [(.ref b2), (.int (((0 : Int32) + (1 : Int32)) + (1 : Int32))), (.ref t)]))
  refine own_via (fun _ k => XS.iloadN X101.here hx rfl (hb hby dt_22) rfl k) ?_
  show own_G _ _ _ _ (T101.setTop (mkF m 23 #[.val (.ref a), .val (.ref t), .val (.int (((0 : Int32) + (1 : Int32)) + (1 : Int32)))] [(.int (((0 : Int32) + (1 : Int32)) + (1 : Int32))), (.ref b2), (.int (((0 : Int32) + (1 : Int32)) + (1 : Int32))), (.ref t)]))
  obtain ⟨cl102, Ar102, -, Sz102, Nn102, Hh102, -⟩ := id V_b2
  have hin102 : ¬ ((((0 : Int32) + (1 : Int32)) + (1 : Int32)) < 0 ∨ cl102.slots.size ≤ ((((0 : Int32) + (1 : Int32)) + (1 : Int32))).toNatClampNeg) := inb_of Sz102 ⟨by decide, by decide⟩
  have hat102 : cl102.slots[((((0 : Int32) + (1 : Int32)) + (1 : Int32))).toNatClampNeg]? = some (.int c2) := Has.at Hh102 hin102 rfl
  refine own_via (fun _ k => X101.iaload hx (j := (((0 : Int32) + (1 : Int32)) + (1 : Int32))) (v := (.int c2)) (by rw [e101]; exact Ar102.1) (State.isArrayOf_alike hZ.alike Ar102.2.1) Ar102.2.2 hin102 hat102 (g := (mkF m 23 #[.val (.ref a), .val (.ref t), .val (.int (((0 : Int32) + (1 : Int32)) + (1 : Int32)))] [(.int (((0 : Int32) + (1 : Int32)) + (1 : Int32))), (.ref b2), (.int (((0 : Int32) + (1 : Int32)) + (1 : Int32))), (.ref t)])) rfl rfl (hb hby dt_23) _ k) ?_
  show own_G _ _ _ _ (T101.setTop (mkF m 24 #[.val (.ref a), .val (.ref t), .val (.int (((0 : Int32) + (1 : Int32)) + (1 : Int32)))] [(.int c2), (.int (((0 : Int32) + (1 : Int32)) + (1 : Int32))), (.ref t)]))
  refine own_via (fun _ k => XS.iconst X101.here hx rfl (hb hby dt_24) k) ?_
  show own_G _ _ _ _ (T101.setTop (mkF m 25 #[.val (.ref a), .val (.ref t), .val (.int (((0 : Int32) + (1 : Int32)) + (1 : Int32)))] [(.int (1 : Int32)), (.int c2), (.int (((0 : Int32) + (1 : Int32)) + (1 : Int32))), (.ref t)]))
  refine own_via (fun _ k => XS.isub X101.here hx rfl (hb hby dt_25) rfl k) ?_
  show own_G _ _ _ _ (T101.setTop (mkF m 26 #[.val (.ref a), .val (.ref t), .val (.int (((0 : Int32) + (1 : Int32)) + (1 : Int32)))] [(.int (c2 - (1 : Int32))), (.int (((0 : Int32) + (1 : Int32)) + (1 : Int32))), (.ref t)]))
  obtain ⟨cl_t, Ar_t, q_t, S_t, Nn_t, H_t, G_t⟩ := V_t
  have hin103 : ¬ ((((0 : Int32) + (1 : Int32)) + (1 : Int32)) < 0 ∨ cl_t.slots.size ≤ ((((0 : Int32) + (1 : Int32)) + (1 : Int32))).toNatClampNeg) := inb_of S_t ⟨by decide, by decide⟩
  obtain ⟨T103, h103, X103, e103, W103, st103⟩ := stI X101 hx hZ e101 Ar_t (j := (((0 : Int32) + (1 : Int32)) + (1 : Int32))) hin103 (g := (mkF m 26 #[.val (.ref a), .val (.ref t), .val (.int (((0 : Int32) + (1 : Int32)) + (1 : Int32)))] [(.int (c2 - (1 : Int32))), (.int (((0 : Int32) + (1 : Int32)) + (1 : Int32))), (.ref t)])) rfl rfl (hb hby dt_26)
  have V_t : Arv Z h103 t k_t .int (3 : Int32) ([(.int (c0 - (1 : Int32))), (.int (c1 - (1 : Int32))), (.int (c2 - (1 : Int32)))] : List Value) (.int (0 : Int32)) := Arv.set Ar_t q_t S_t Nn_t H_t G_t rfl W103 2 rfl (Nat.le_of_ble_eq_true rfl)
  have F_a_levelCounts := F_a_levelCounts.other W103 (Or.inl ne_a_t)
  have V_b2 := V_b2.other W103 ne_b2_t
  have Z0 := Nat.le_trans Z0 (Keep.of_wr W103).1
  have K := K.wr W103 (Or.inr sz_t)
  have N103 := Fr.snoc X103 N99 g_t
  refine own_via st103 ?_
  show own_G _ _ _ _ (T103.setTop (mkF m 27 #[.val (.ref a), .val (.ref t), .val (.int (((0 : Int32) + (1 : Int32)) + (1 : Int32)))] []))
  refine own_via (fun _ k => XS.iinc X103.here hx rfl (hb hby dt_27) rfl (l' := #[.val (.ref a), .val (.ref t), .val (.int ((((0 : Int32) + (1 : Int32)) + (1 : Int32)) + (1 : Int32)))]) rfl k) ?_
  show own_G _ _ _ _ (T103.setTop (mkF m 30 #[.val (.ref a), .val (.ref t), .val (.int ((((0 : Int32) + (1 : Int32)) + (1 : Int32)) + (1 : Int32)))] []))
  refine own_via (fun _ k => XS.goto X103.here hx rfl (pc0 := 30) (pc' := 10) rfl (hb hby dt_30) (by decide) (by decide) k) ?_
  show own_G _ _ _ _ (T103.setTop (mkF m 10 #[.val (.ref a), .val (.ref t), .val (.int ((((0 : Int32) + (1 : Int32)) + (1 : Int32)) + (1 : Int32)))] []))
  refine own_via (fun _ k => XS.iloadN X103.here hx rfl (hb hby dt_10) rfl k) ?_
  show own_G _ _ _ _ (T103.setTop (mkF m 11 #[.val (.ref a), .val (.ref t), .val (.int ((((0 : Int32) + (1 : Int32)) + (1 : Int32)) + (1 : Int32)))] [(.int ((((0 : Int32) + (1 : Int32)) + (1 : Int32)) + (1 : Int32)))]))
  refine own_via (fun _ k => XS.aloadN X103.here hx rfl (hb hby dt_11) rfl rfl k) ?_
  show own_G _ _ _ _ (T103.setTop (mkF m 12 #[.val (.ref a), .val (.ref t), .val (.int ((((0 : Int32) + (1 : Int32)) + (1 : Int32)) + (1 : Int32)))] [(.ref t), (.int ((((0 : Int32) + (1 : Int32)) + (1 : Int32)) + (1 : Int32)))]))
  obtain ⟨cl104, Ar104, -, Sz104, Nn104, -, -⟩ := id V_t
  refine own_via (fun _ k => X103.arraylength hx (by rw [e103]; exact Ar104.1) (State.isArrayOf_alike hZ.alike Ar104.2.1) (g := (mkF m 12 #[.val (.ref a), .val (.ref t), .val (.int ((((0 : Int32) + (1 : Int32)) + (1 : Int32)) + (1 : Int32)))] [(.ref t), (.int ((((0 : Int32) + (1 : Int32)) + (1 : Int32)) + (1 : Int32)))])) rfl rfl (hb hby dt_12) _ k) ?_
  rw [len_of Sz104 Nn104]
  show own_G _ _ _ _ (T103.setTop (mkF m 13 #[.val (.ref a), .val (.ref t), .val (.int ((((0 : Int32) + (1 : Int32)) + (1 : Int32)) + (1 : Int32)))] [(.int (3 : Int32)), (.int ((((0 : Int32) + (1 : Int32)) + (1 : Int32)) + (1 : Int32)))]))
  refine own_via (fun _ k => XS.icmpYes X103.here hx rfl (pc0 := 13) (pc' := 33) rfl (hb hby dt_13) rfl (flt (by decide)).2.1 (by decide) (by decide) k) ?_
  show own_G _ _ _ _ (T103.setTop (mkF m 33 #[.val (.ref a), .val (.ref t), .val (.int ((((0 : Int32) + (1 : Int32)) + (1 : Int32)) + (1 : Int32)))] []))
  refine own_via (fun _ k => XS.aloadN X103.here hx rfl (hb hby dt_33) rfl rfl k) ?_
  show own_G _ _ _ _ (T103.setTop (mkF m 34 #[.val (.ref a), .val (.ref t), .val (.int ((((0 : Int32) + (1 : Int32)) + (1 : Int32)) + (1 : Int32)))] [(.ref t)]))
  obtain ⟨fs, hr, hrun, hended, hW, hsame⟩ := X103.leave (v := some (.ref t)) (fun h => by rw [Bd.returns] at h; cases h)
  refine ⟨_, _, ?_, hrun, hended, _, _, rfl, ?_, ⟨_, rfl⟩, hW, hsame.mono (by decide) (by decide)⟩
  · jvm_step X103.here [X103.here.top, hx, (hb hby dt_34), X103.method', Bd.returns, Value.isRef, FieldType.isReference]
    first | (intro acts; rw [hr _ acts rfl rfl rfl]) | rw [hr _ _ rfl rfl rfl]
    exact Steps.refl _
  · show Qt3 Z a b2 kk0 c0 c1 c2 h0 n0 _ T103.heap _
    rw [e103]
    exact ⟨t, _, rfl, N103, K, V_t⟩
theorem pn_0 : plainName "com/example/vanon/vanon/lattice/LatticeTopPinLaw" = true := by first | (simp [plainName, overriddenIn]; done) | decide +kernel
theorem ef_0 (m : MethodId) (i0 : Int32) (i1 : Int32) (i2 : Int32) (i3 : Int32) : entryFrame m #[(.int i0), (.int i1), (.int i2), (.int i3)] maxLocals = (mkF m 0 #[.val (.int i0), .val (.int i1), .val (.int i2), .val (.int i3), .unset, .unset, .unset, .unset, .unset, .unset, .unset] []) := by first | (simp [entryFrame, mkF, argsToLocals, Value.category, maxLocals]; done) | rfl
set_option maxRecDepth 65536 in
set_option maxHeartbeats 40000000 in
theorem rm0 (l : Launch) (Z : State) (a0 : Array Value) (hw : ∀ d ∈ tables_1, d.before a0 Z = true) (ws : List Jvm.Cond) (i0 : Int32) (i1 : Int32) (i2 : Int32) (i3 : Int32) (h0 : Heap) (n0 : Nat) (Z0 : n0 ≤ h0.size) :
    MetFree l x (head1 (Jvm.Cond.code x code maxLocals ret :: ws) room_1) (fun as' U => as' = #[(.int i0), (.int i1), (.int i2), (.int i3)] ∧ Z.Warmed39 U.vm ∧ U.heap = h0) (fun _ _ _ _ _ => True) (fun _ U o U' => ∃ v L, o = .returned v ∧ (v = some (.int 1) ∧ Fr n0 L) ∧ FrameEnd U o U' L 5 15) := by
  refine MetFree.of_bodySF (plainFor_of_name pn_0) hisR ?_
  intro p e s m args below meth c s₁ Bd hml0 hP hK
  obtain ⟨rfl, hZ, hh⟩ := hP
  have hx := Bd.exec
  have hby := Bd.bytes
  have hml : c.maxLocals = 11 := hml0
  have hown : s.vm.findClass "com/example/vanon/vanon/lattice/LatticeTopPinLaw" = some m.cls := findClass_of_methodNamed Bd.named
  have hnm := (name_of_methodNamed Bd.named Bd.method).1
  have X0 : Stand p l e room_1 s m #[(.int i0), (.int i1), (.int i2), (.int i3)] below meth c s₁ [] 0 0 := Stand.of_body Bd
  have e0 : s₁.heap = h0 := by rw [← hh, Bd.state]; rfl
  have N0 := Fr.nil n0
  refine own_via (fun t k => castTop (ef_0 m i0 i1 i2 i3) k) ?_
  show own_G _ _ _ _ (s₁.setTop (mkF m 0 #[.val (.int i0), .val (.int i1), .val (.int i2), .val (.int i3), .unset, .unset, .unset, .unset, .unset, .unset, .unset] []))
  refine own_via (fun _ k => XS.iloadN X0.here hx rfl (hb hby at_0) rfl k) ?_
  show own_G _ _ _ _ (s₁.setTop (mkF m 1 #[.val (.int i0), .val (.int i1), .val (.int i2), .val (.int i3), .unset, .unset, .unset, .unset, .unset, .unset, .unset] [(.int i0)]))
  refine own_via (fun _ k => XS.iconst X0.here hx rfl (hb hby at_1) k) ?_
  show own_G _ _ _ _ (s₁.setTop (mkF m 2 #[.val (.int i0), .val (.int i1), .val (.int i2), .val (.int i3), .unset, .unset, .unset, .unset, .unset, .unset, .unset] [(.int (3 : Int32)), (.int i0)]))
  refine own_via (fun _ k => XS.iand X0.here hx rfl (hb hby at_2) rfl k) ?_
  show own_G _ _ _ _ (s₁.setTop (mkF m 3 #[.val (.int i0), .val (.int i1), .val (.int i2), .val (.int i3), .unset, .unset, .unset, .unset, .unset, .unset, .unset] [(.int (i0 &&& (3 : Int32)))]))
  refine own_via (fun _ k => XS.istore X0.here hx rfl (hb hby at_3) rfl (l' := #[.val (.int i0), .val (.int i1), .val (.int i2), .val (.int i3), .val (.int (i0 &&& (3 : Int32))), .unset, .unset, .unset, .unset, .unset, .unset]) rfl k) ?_
  show own_G _ _ _ _ (s₁.setTop (mkF m 5 #[.val (.int i0), .val (.int i1), .val (.int i2), .val (.int i3), .val (.int (i0 &&& (3 : Int32))), .unset, .unset, .unset, .unset, .unset, .unset] []))
  have s1 : (i0 &&& (3 : Int32)).toInt = _ % 2 ^ 2 := Jvm.Kit.i32_mask _ 3 (by decide) (by decide)
  have s2 : 0 ≤ (i0 &&& (3 : Int32)).toInt ∧ (i0 &&& (3 : Int32)).toInt < 4 := by rw [s1]; omega
  clear s1
  obtain ⟨dd, hdd⟩ : ∃ z, z = (i0 &&& (3 : Int32)) := ⟨_, rfl⟩
  rw [← hdd] at s2 ⊢
  show own_G _ _ _ _ (s₁.setTop (mkF m 5 #[.val (.int i0), .val (.int i1), .val (.int i2), .val (.int i3), .val (.int dd), .unset, .unset, .unset, .unset, .unset, .unset] []))
  have hd := own_four s2.1 s2.2
  clear s2
  rcases hd with rfl | rfl | rfl | rfl
  · show own_G _ _ _ _ (s₁.setTop (mkF m 5 #[.val (.int i0), .val (.int i1), .val (.int i2), .val (.int i3), .val (.int (0 : Int32)), .unset, .unset, .unset, .unset, .unset, .unset] []))
    refine own_via (fun _ k => XS.iload X0.here hx rfl (hb hby at_5) rfl k) ?_
    show own_G _ _ _ _ (s₁.setTop (mkF m 7 #[.val (.int i0), .val (.int i1), .val (.int i2), .val (.int i3), .val (.int (0 : Int32)), .unset, .unset, .unset, .unset, .unset, .unset] [(.int (0 : Int32))]))
    refine own_via (fun _ k => XS.iconst X0.here hx rfl (hb hby at_7) k) ?_
    show own_G _ _ _ _ (s₁.setTop (mkF m 8 #[.val (.int i0), .val (.int i1), .val (.int i2), .val (.int i3), .val (.int (0 : Int32)), .unset, .unset, .unset, .unset, .unset, .unset] [(.int (1 : Int32)), (.int (0 : Int32))]))
    refine own_via (fun _ k => XS.icmpNo X0.here hx rfl (hb hby at_8) rfl (flt (by decide)).2.2.1 k) ?_
    show own_G _ _ _ _ (s₁.setTop (mkF m 11 #[.val (.int i0), .val (.int i1), .val (.int i2), .val (.int i3), .val (.int (0 : Int32)), .unset, .unset, .unset, .unset, .unset, .unset] []))
    refine own_via (fun _ k => XS.iloadN X0.here hx rfl (hb hby at_11) rfl k) ?_
    show own_G _ _ _ _ (s₁.setTop (mkF m 12 #[.val (.int i0), .val (.int i1), .val (.int i2), .val (.int i3), .val (.int (0 : Int32)), .unset, .unset, .unset, .unset, .unset, .unset] [(.int i1)]))
    refine own_via (fun _ k => X0.ldcInt hx hown (mvT hZ (hw _ (List.mem_of_getElem? (i := 0) rfl))) (g := (mkF m 12 #[.val (.int i0), .val (.int i1), .val (.int i2), .val (.int i3), .val (.int (0 : Int32)), .unset, .unset, .unset, .unset, .unset, .unset] [(.int i1)])) rfl (hb hby at_12) _ k) ?_
    show own_G _ _ _ _ (s₁.setTop (mkF m 14 #[.val (.int i0), .val (.int i1), .val (.int i2), .val (.int i3), .val (.int (0 : Int32)), .unset, .unset, .unset, .unset, .unset, .unset] [(.int (2147483647 : Int32)), (.int i1)]))
    refine own_via (fun _ k => XS.iand X0.here hx rfl (hb hby at_14) rfl k) ?_
    show own_G _ _ _ _ (s₁.setTop (mkF m 15 #[.val (.int i0), .val (.int i1), .val (.int i2), .val (.int i3), .val (.int (0 : Int32)), .unset, .unset, .unset, .unset, .unset, .unset] [(.int (i1 &&& (2147483647 : Int32)))]))
    refine own_via (fun _ k => X0.ldcInt hx hown (mvT hZ (hw _ (List.mem_of_getElem? (i := 1) rfl))) (g := (mkF m 15 #[.val (.int i0), .val (.int i1), .val (.int i2), .val (.int i3), .val (.int (0 : Int32)), .unset, .unset, .unset, .unset, .unset, .unset] [(.int (i1 &&& (2147483647 : Int32)))])) rfl (hb hby at_15) _ k) ?_
    show own_G _ _ _ _ (s₁.setTop (mkF m 17 #[.val (.int i0), .val (.int i1), .val (.int i2), .val (.int i3), .val (.int (0 : Int32)), .unset, .unset, .unset, .unset, .unset, .unset] [(.int (2147483639 : Int32)), (.int (i1 &&& (2147483647 : Int32)))]))
    refine own_via (fun _ k => iremM X0 hx rfl (hb hby at_17) rfl (by decide) k) ?_
    show own_G _ _ _ _ (s₁.setTop (mkF m 18 #[.val (.int i0), .val (.int i1), .val (.int i2), .val (.int i3), .val (.int (0 : Int32)), .unset, .unset, .unset, .unset, .unset, .unset] [(.int ((i1 &&& (2147483647 : Int32)) % (2147483639 : Int32)))]))
    refine own_via (fun _ k => XS.iconst X0.here hx rfl (hb hby at_18) k) ?_
    show own_G _ _ _ _ (s₁.setTop (mkF m 19 #[.val (.int i0), .val (.int i1), .val (.int i2), .val (.int i3), .val (.int (0 : Int32)), .unset, .unset, .unset, .unset, .unset, .unset] [(.int (1 : Int32)), (.int ((i1 &&& (2147483647 : Int32)) % (2147483639 : Int32)))]))
    refine own_via (fun _ k => XS.iadd X0.here hx rfl (hb hby at_19) rfl k) ?_
    show own_G _ _ _ _ (s₁.setTop (mkF m 20 #[.val (.int i0), .val (.int i1), .val (.int i2), .val (.int i3), .val (.int (0 : Int32)), .unset, .unset, .unset, .unset, .unset, .unset] [(.int (((i1 &&& (2147483647 : Int32)) % (2147483639 : Int32)) + (1 : Int32)))]))
    refine own_via (fun _ k => XS.istore X0.here hx rfl (hb hby at_20) rfl (l' := #[.val (.int i0), .val (.int i1), .val (.int i2), .val (.int i3), .val (.int (0 : Int32)), .val (.int (((i1 &&& (2147483647 : Int32)) % (2147483639 : Int32)) + (1 : Int32))), .unset, .unset, .unset, .unset, .unset]) rfl k) ?_
    show own_G _ _ _ _ (s₁.setTop (mkF m 22 #[.val (.int i0), .val (.int i1), .val (.int i2), .val (.int i3), .val (.int (0 : Int32)), .val (.int (((i1 &&& (2147483647 : Int32)) % (2147483639 : Int32)) + (1 : Int32))), .unset, .unset, .unset, .unset, .unset] []))
    refine own_via (fun _ k => XS.goto X0.here hx rfl (pc0 := 22) (pc' := 34) rfl (hb hby at_22) (by decide) (by decide) k) ?_
    show own_G _ _ _ _ (s₁.setTop (mkF m 34 #[.val (.int i0), .val (.int i1), .val (.int i2), .val (.int i3), .val (.int (0 : Int32)), .val (.int (((i1 &&& (2147483647 : Int32)) % (2147483639 : Int32)) + (1 : Int32))), .unset, .unset, .unset, .unset, .unset] []))
    have k0 := own_c0 (i1 &&& (2147483647 : Int32)) (by rw [show (i1 &&& (2147483647 : Int32)).toInt = i1.toInt % 2 ^ 31 from Jvm.Kit.i32_mask i1 2147483647 (by decide) (by decide)]; omega)
    obtain ⟨c0, hc0⟩ : ∃ z, z = (((i1 &&& (2147483647 : Int32)) % (2147483639 : Int32)) + (1 : Int32)) := ⟨_, rfl⟩
    rw [← hc0] at k0 ⊢
    show own_G _ _ _ _ (s₁.setTop (mkF m 34 #[.val (.int i0), .val (.int i1), .val (.int i2), .val (.int i3), .val (.int (0 : Int32)), .val (.int c0), .unset, .unset, .unset, .unset, .unset] []))
    refine own_via (fun _ k => XS.iloadN X0.here hx rfl (hb hby at_34) rfl k) ?_
    show own_G _ _ _ _ (s₁.setTop (mkF m 35 #[.val (.int i0), .val (.int i1), .val (.int i2), .val (.int i3), .val (.int (0 : Int32)), .val (.int c0), .unset, .unset, .unset, .unset, .unset] [(.int i2)]))
    refine own_via (fun _ k => XS.sipush X0.here hx rfl (hb hby at_35) k) ?_
    show own_G _ _ _ _ (s₁.setTop (mkF m 38 #[.val (.int i0), .val (.int i1), .val (.int i2), .val (.int i3), .val (.int (0 : Int32)), .val (.int c0), .unset, .unset, .unset, .unset, .unset] [(.int (1023 : Int32)), (.int i2)]))
    refine own_via (fun _ k => XS.iand X0.here hx rfl (hb hby at_38) rfl k) ?_
    show own_G _ _ _ _ (s₁.setTop (mkF m 39 #[.val (.int i0), .val (.int i1), .val (.int i2), .val (.int i3), .val (.int (0 : Int32)), .val (.int c0), .unset, .unset, .unset, .unset, .unset] [(.int (i2 &&& (1023 : Int32)))]))
    refine own_via (fun _ k => XS.iconst X0.here hx rfl (hb hby at_39) k) ?_
    show own_G _ _ _ _ (s₁.setTop (mkF m 40 #[.val (.int i0), .val (.int i1), .val (.int i2), .val (.int i3), .val (.int (0 : Int32)), .val (.int c0), .unset, .unset, .unset, .unset, .unset] [(.int (1 : Int32)), (.int (i2 &&& (1023 : Int32)))]))
    refine own_via (fun _ k => XS.iadd X0.here hx rfl (hb hby at_40) rfl k) ?_
    show own_G _ _ _ _ (s₁.setTop (mkF m 41 #[.val (.int i0), .val (.int i1), .val (.int i2), .val (.int i3), .val (.int (0 : Int32)), .val (.int c0), .unset, .unset, .unset, .unset, .unset] [(.int ((i2 &&& (1023 : Int32)) + (1 : Int32)))]))
    refine own_via (fun _ k => XS.istore X0.here hx rfl (hb hby at_41) rfl (l' := #[.val (.int i0), .val (.int i1), .val (.int i2), .val (.int i3), .val (.int (0 : Int32)), .val (.int c0), .val (.int ((i2 &&& (1023 : Int32)) + (1 : Int32))), .unset, .unset, .unset, .unset]) rfl k) ?_
    show own_G _ _ _ _ (s₁.setTop (mkF m 43 #[.val (.int i0), .val (.int i1), .val (.int i2), .val (.int i3), .val (.int (0 : Int32)), .val (.int c0), .val (.int ((i2 &&& (1023 : Int32)) + (1 : Int32))), .unset, .unset, .unset, .unset] []))
    have k1 := own_c i2 (Jvm.Kit.i32_mask i2 1023 (by decide) (by decide))
    obtain ⟨c1, hc1⟩ : ∃ z, z = ((i2 &&& (1023 : Int32)) + (1 : Int32)) := ⟨_, rfl⟩
    rw [← hc1] at k1 ⊢
    show own_G _ _ _ _ (s₁.setTop (mkF m 43 #[.val (.int i0), .val (.int i1), .val (.int i2), .val (.int i3), .val (.int (0 : Int32)), .val (.int c0), .val (.int c1), .unset, .unset, .unset, .unset] []))
    refine own_via (fun _ k => XS.iloadN X0.here hx rfl (hb hby at_43) rfl k) ?_
    show own_G _ _ _ _ (s₁.setTop (mkF m 44 #[.val (.int i0), .val (.int i1), .val (.int i2), .val (.int i3), .val (.int (0 : Int32)), .val (.int c0), .val (.int c1), .unset, .unset, .unset, .unset] [(.int i3)]))
    refine own_via (fun _ k => XS.sipush X0.here hx rfl (hb hby at_44) k) ?_
    show own_G _ _ _ _ (s₁.setTop (mkF m 47 #[.val (.int i0), .val (.int i1), .val (.int i2), .val (.int i3), .val (.int (0 : Int32)), .val (.int c0), .val (.int c1), .unset, .unset, .unset, .unset] [(.int (1023 : Int32)), (.int i3)]))
    refine own_via (fun _ k => XS.iand X0.here hx rfl (hb hby at_47) rfl k) ?_
    show own_G _ _ _ _ (s₁.setTop (mkF m 48 #[.val (.int i0), .val (.int i1), .val (.int i2), .val (.int i3), .val (.int (0 : Int32)), .val (.int c0), .val (.int c1), .unset, .unset, .unset, .unset] [(.int (i3 &&& (1023 : Int32)))]))
    refine own_via (fun _ k => XS.iconst X0.here hx rfl (hb hby at_48) k) ?_
    show own_G _ _ _ _ (s₁.setTop (mkF m 49 #[.val (.int i0), .val (.int i1), .val (.int i2), .val (.int i3), .val (.int (0 : Int32)), .val (.int c0), .val (.int c1), .unset, .unset, .unset, .unset] [(.int (1 : Int32)), (.int (i3 &&& (1023 : Int32)))]))
    refine own_via (fun _ k => XS.iadd X0.here hx rfl (hb hby at_49) rfl k) ?_
    show own_G _ _ _ _ (s₁.setTop (mkF m 50 #[.val (.int i0), .val (.int i1), .val (.int i2), .val (.int i3), .val (.int (0 : Int32)), .val (.int c0), .val (.int c1), .unset, .unset, .unset, .unset] [(.int ((i3 &&& (1023 : Int32)) + (1 : Int32)))]))
    refine own_via (fun _ k => XS.istore X0.here hx rfl (hb hby at_50) rfl (l' := #[.val (.int i0), .val (.int i1), .val (.int i2), .val (.int i3), .val (.int (0 : Int32)), .val (.int c0), .val (.int c1), .val (.int ((i3 &&& (1023 : Int32)) + (1 : Int32))), .unset, .unset, .unset]) rfl k) ?_
    show own_G _ _ _ _ (s₁.setTop (mkF m 52 #[.val (.int i0), .val (.int i1), .val (.int i2), .val (.int i3), .val (.int (0 : Int32)), .val (.int c0), .val (.int c1), .val (.int ((i3 &&& (1023 : Int32)) + (1 : Int32))), .unset, .unset, .unset] []))
    have k2 := own_c i3 (Jvm.Kit.i32_mask i3 1023 (by decide) (by decide))
    obtain ⟨c2, hc2⟩ : ∃ z, z = ((i3 &&& (1023 : Int32)) + (1 : Int32)) := ⟨_, rfl⟩
    rw [← hc2] at k2 ⊢
    show own_G _ _ _ _ (s₁.setTop (mkF m 52 #[.val (.int i0), .val (.int i1), .val (.int i2), .val (.int i3), .val (.int (0 : Int32)), .val (.int c0), .val (.int c1), .val (.int c2), .unset, .unset, .unset] []))
    refine own_via (fun _ k => XS.iload X0.here hx rfl (hb hby at_52) rfl k) ?_
    show own_G _ _ _ _ (s₁.setTop (mkF m 54 #[.val (.int i0), .val (.int i1), .val (.int i2), .val (.int i3), .val (.int (0 : Int32)), .val (.int c0), .val (.int c1), .val (.int c2), .unset, .unset, .unset] [(.int (0 : Int32))]))
    obtain ⟨T105, h105, k_b, X105, e105, E105, A105, EA105, st105⟩ := newPE X0 hx hZ (hw _ (List.mem_of_getElem? (i := 2) rfl)) e0 (g := (mkF m 54 #[.val (.int i0), .val (.int i1), .val (.int i2), .val (.int i3), .val (.int (0 : Int32)), .val (.int c0), .val (.int c1), .val (.int c2), .unset, .unset, .unset] [(.int (0 : Int32))])) rfl (hb hby at_54) rfl (by decide) (cap := 0) (by decide) (by decide) (by decide) (by decide) (ad := "[I") rfl
    obtain ⟨b, g105⟩ : ∃ z, z = h0.size := ⟨_, rfl⟩
    rw [← g105] at A105 EA105 st105
    have g_b : n0 ≤ b := Nat.le_trans Z0 (Nat.le_of_eq g105.symm)
    have Z0 := Nat.le_trans Z0 E105.1
    have E_b := EA105
    have V_b : Arv Z h105 b k_b .int (0 : Int32) [] (.int (0 : Int32)) := (Arv.new A105 (by decide)).pad (pad_rep [] (.int (0 : Int32)) 0)
    refine own_via st105 ?_
    show own_G _ _ _ _ (T105.setTop (mkF m 56 #[.val (.int i0), .val (.int i1), .val (.int i2), .val (.int i3), .val (.int (0 : Int32)), .val (.int c0), .val (.int c1), .val (.int c2), .unset, .unset, .unset] [(.ref b)]))
    refine own_via (fun _ k => XS.astore X105.here hx rfl (hb hby at_56) rfl rfl (l' := #[.val (.int i0), .val (.int i1), .val (.int i2), .val (.int i3), .val (.int (0 : Int32)), .val (.int c0), .val (.int c1), .val (.int c2), .val (.ref b), .unset, .unset]) rfl k) ?_
    show own_G _ _ _ _ (T105.setTop (mkF m 58 #[.val (.int i0), .val (.int i1), .val (.int i2), .val (.int i3), .val (.int (0 : Int32)), .val (.int c0), .val (.int c1), .val (.int c2), .val (.ref b), .unset, .unset] []))
    refine own_via (fun _ k => XS.iload X105.here hx rfl (hb hby at_58) rfl k) ?_
    show own_G _ _ _ _ (T105.setTop (mkF m 60 #[.val (.int i0), .val (.int i1), .val (.int i2), .val (.int i3), .val (.int (0 : Int32)), .val (.int c0), .val (.int c1), .val (.int c2), .val (.ref b), .unset, .unset] [(.int (0 : Int32))]))
    refine own_via (fun _ k => XS.ifYes X105.here hx rfl (pc0 := 60) (pc' := 69) rfl (hb hby at_60) rfl ((if0 _ _).trans (flt (by decide)).2.2.2) (by decide) (by decide) k) ?_
    show own_G _ _ _ _ (T105.setTop (mkF m 69 #[.val (.int i0), .val (.int i1), .val (.int i2), .val (.int i3), .val (.int (0 : Int32)), .val (.int c0), .val (.int c1), .val (.int c2), .val (.ref b), .unset, .unset] []))
    refine own_via (fun _ k => XS.iload X105.here hx rfl (hb hby at_69) rfl k) ?_
    show own_G _ _ _ _ (T105.setTop (mkF m 71 #[.val (.int i0), .val (.int i1), .val (.int i2), .val (.int i3), .val (.int (0 : Int32)), .val (.int c0), .val (.int c1), .val (.int c2), .val (.ref b), .unset, .unset] [(.int (0 : Int32))]))
    refine own_via (fun _ k => XS.iconst X105.here hx rfl (hb hby at_71) k) ?_
    show own_G _ _ _ _ (T105.setTop (mkF m 72 #[.val (.int i0), .val (.int i1), .val (.int i2), .val (.int i3), .val (.int (0 : Int32)), .val (.int c0), .val (.int c1), .val (.int c2), .val (.ref b), .unset, .unset] [(.int (1 : Int32)), (.int (0 : Int32))]))
    refine own_via (fun _ k => XS.icmpYes X105.here hx rfl (pc0 := 72) (pc' := 81) rfl (hb hby at_72) rfl (flt (by decide)).2.2.2 (by decide) (by decide) k) ?_
    show own_G _ _ _ _ (T105.setTop (mkF m 81 #[.val (.int i0), .val (.int i1), .val (.int i2), .val (.int i3), .val (.int (0 : Int32)), .val (.int c0), .val (.int c1), .val (.int c2), .val (.ref b), .unset, .unset] []))
    refine own_via (fun _ k => XS.iload X105.here hx rfl (hb hby at_81) rfl k) ?_
    show own_G _ _ _ _ (T105.setTop (mkF m 83 #[.val (.int i0), .val (.int i1), .val (.int i2), .val (.int i3), .val (.int (0 : Int32)), .val (.int c0), .val (.int c1), .val (.int c2), .val (.ref b), .unset, .unset] [(.int (0 : Int32))]))
    refine own_via (fun _ k => XS.iconst X105.here hx rfl (hb hby at_83) k) ?_
    show own_G _ _ _ _ (T105.setTop (mkF m 84 #[.val (.int i0), .val (.int i1), .val (.int i2), .val (.int i3), .val (.int (0 : Int32)), .val (.int c0), .val (.int c1), .val (.int c2), .val (.ref b), .unset, .unset] [(.int (2 : Int32)), (.int (0 : Int32))]))
    refine own_via (fun _ k => XS.icmpYes X105.here hx rfl (pc0 := 84) (pc' := 93) rfl (hb hby at_84) rfl (flt (by decide)).2.2.2 (by decide) (by decide) k) ?_
    show own_G _ _ _ _ (T105.setTop (mkF m 93 #[.val (.int i0), .val (.int i1), .val (.int i2), .val (.int i3), .val (.int (0 : Int32)), .val (.int c0), .val (.int c1), .val (.int c2), .val (.ref b), .unset, .unset] []))
    obtain ⟨T106, h106, X106, e106, E106, A106, D106, -, st106⟩ := newO X105 hx hZ hown (hw _ (List.mem_of_getElem? (i := 3) rfl)) (hw _ (List.mem_of_getElem? (i := 4) rfl)) (hw _ (List.mem_of_getElem? (i := 5) rfl)) e105 (g := (mkF m 93 #[.val (.int i0), .val (.int i1), .val (.int i2), .val (.int i3), .val (.int (0 : Int32)), .val (.int c0), .val (.int c1), .val (.int c2), .val (.ref b), .unset, .unset] [])) rfl (hb hby at_93) (by decide) (by decide)
    obtain ⟨la, g106⟩ : ∃ z, z = h105.size := ⟨_, rfl⟩
    rw [← g106] at A106 D106 st106
    have g_la : n0 ≤ la := Nat.le_trans Z0 (Nat.le_of_eq g106.symm)
    have ne_b_la : b ≠ la := Nat.ne_of_lt (Nat.lt_of_lt_of_le E_b.lt (Nat.le_of_eq g106.symm))
    have E_b := E_b.ext E106
    have V_b := V_b.ext E106
    have Z0 := Nat.le_trans Z0 E106.1
    have E_la := A106
    have F_la_levelCounts : Fld Z h106 la "com/example/vanon/vanon/lattice/Lattice" "levelCounts" "[I" .null := D106 (Or.inr (hw _ (List.mem_of_getElem? (i := 22) rfl))) (ty := (.array .int)) (by decide)
    have F_la_strides : Fld Z h106 la "com/example/vanon/vanon/lattice/Lattice" "strides" "[I" .null := D106 (Or.inr (hw _ (List.mem_of_getElem? (i := 24) rfl))) (ty := (.array .int)) (by decide)
    have F_la_size : Fld Z h106 la "com/example/vanon/vanon/lattice/Lattice" "size" "I" (.int (0 : Int32)) := D106 (Or.inr (hw _ (List.mem_of_getElem? (i := 26) rfl))) (ty := .int) (by decide)
    refine own_via st106 ?_
    show own_G _ _ _ _ (T106.setTop (mkF m 96 #[.val (.int i0), .val (.int i1), .val (.int i2), .val (.int i3), .val (.int (0 : Int32)), .val (.int c0), .val (.int c1), .val (.int c2), .val (.ref b), .unset, .unset] [(.ref la)]))
    refine own_via (fun _ k => XS.dup X106.here hx rfl (hb hby at_96) rfl rfl k) ?_
    show own_G _ _ _ _ (T106.setTop (mkF m 97 #[.val (.int i0), .val (.int i1), .val (.int i2), .val (.int i3), .val (.int (0 : Int32)), .val (.int c0), .val (.int c1), .val (.int c2), .val (.ref b), .unset, .unset] [(.ref la), (.ref la)]))
    refine own_via (fun _ k => XS.aload X106.here hx rfl (hb hby at_97) rfl rfl k) ?_
    show own_G _ _ _ _ (T106.setTop (mkF m 99 #[.val (.int i0), .val (.int i1), .val (.int i2), .val (.int i3), .val (.int (0 : Int32)), .val (.int c0), .val (.int c1), .val (.int c2), .val (.ref b), .unset, .unset] [(.ref b), (.ref la), (.ref la)]))
    have u0 : 0 ≤ (1 : Int64).toInt ∧ (1 : Int64).toInt ≤ 1 := by decide
    obtain ⟨_, _, ⟨T107, L107, k107, n107⟩, -, X107, ⟨Lc107, hQ107, l107, y107, z107⟩, st107⟩ := X106.specialBack hx (y := (⟨"com/example/vanon/vanon/lattice/Lattice", "<init>", "([I)V"⟩ : MethodName)) rfl hown (mvT hZ (hw _ (List.mem_of_getElem? (i := 6) rfl))) (mvT hZ (hw _ (List.mem_of_getElem? (i := 7) rfl))) (mvT hZ (hw _ (List.mem_of_getElem? (i := 8) rfl))) (by decide) (backOf (W := 1) (rmc0 l Z a0 hw [] la b k_b  h106 n0 Z0 E_la F_la_levelCounts F_la_strides F_la_size E_b V_b g_la (Ne.symm ne_b_la) ) hZ (hw _ (List.mem_of_getElem? (i := 8) rfl)) (hw _ (List.mem_of_getElem? (i := 5) rfl)) (by decide) (by decide)) (g := (mkF m 99 #[.val (.int i0), .val (.int i1), .val (.int i2), .val (.int i3), .val (.int (0 : Int32)), .val (.int c0), .val (.int c1), .val (.int c2), .val (.ref b), .unset, .unset] [(.ref b), (.ref la), (.ref la)])) rfl (by rw [hml]; rfl) (Steps.refl _) (a := la) (argsL := [(.ref b)]) (rest := [(.ref la)]) (lenOf pd_0 rfl) rfl (by show 2 * 0 + _ ≤ _; exact Nat.le_of_eq rfl) (hb hby at_99) (fun _ _ => ⟨rfl, e106, Nat.le_of_ble_eq_true rfl, Nat.le_of_ble_eq_true rfl⟩)
    dsimp only [Pt.U, Pt.locs, Pt.cells, Pt.slots] at X107 l107 y107 z107 st107 hQ107
    subst l107 y107 z107
    obtain ⟨rfl, N107q, K107, -, b2, b3, k3, g_b2, g_b3, F_la_levelCounts, V_b2, F_la_strides, V_b3, F_la_size⟩ := hQ107
    have N107 := Fr.app N0 N107q
    have E_b := E_b.keep K107
    have V_b := V_b.keep K107 (by simp [ne_b_la])
    have E_la := E_la.keep K107
    have Z0 := Nat.le_trans Z0 K107.1
    refine own_via (fun _ kt => st107.trans kt) ?_
    show own_G _ _ _ _ (T107.setTop (mkF m 102 #[.val (.int i0), .val (.int i1), .val (.int i2), .val (.int i3), .val (.int (0 : Int32)), .val (.int c0), .val (.int c1), .val (.int c2), .val (.ref b), .unset, .unset] [(.ref la)]))
    refine own_via (fun _ k => XS.astore X107.here hx rfl (hb hby at_102) rfl rfl (l' := #[.val (.int i0), .val (.int i1), .val (.int i2), .val (.int i3), .val (.int (0 : Int32)), .val (.int c0), .val (.int c1), .val (.int c2), .val (.ref b), .val (.ref la), .unset]) rfl k) ?_
    show own_G _ _ _ _ (T107.setTop (mkF m 104 #[.val (.int i0), .val (.int i1), .val (.int i2), .val (.int i3), .val (.int (0 : Int32)), .val (.int c0), .val (.int c1), .val (.int c2), .val (.ref b), .val (.ref la), .unset] []))
    refine own_via (fun _ k => XS.aload X107.here hx rfl (hb hby at_104) rfl rfl k) ?_
    show own_G _ _ _ _ (T107.setTop (mkF m 106 #[.val (.int i0), .val (.int i1), .val (.int i2), .val (.int i3), .val (.int (0 : Int32)), .val (.int c0), .val (.int c1), .val (.int c2), .val (.ref b), .val (.ref la), .unset] [(.ref la)]))
    obtain ⟨cq108, kq108, q108a, q108b, q108c⟩ := isOf hZ rfl E_la
    obtain ⟨_, _, ⟨T108, L108, k108, n108⟩, -, X108, ⟨Lc108, hQ108, l108, y108, z108⟩, st108⟩ := X107.virtualBack hx (y := (⟨"com/example/vanon/vanon/lattice/Lattice", "top", "()[I"⟩ : MethodName)) (z := (⟨"com/example/vanon/vanon/lattice/Lattice", "top", "()[I"⟩ : MethodName)) hown (mvT hZ (hw _ (List.mem_of_getElem? (i := 27) rfl))) (mvT hZ (hw _ (List.mem_of_getElem? (i := 28) rfl))) (notFace_of_selects (args := #[]) (mvT hZ (hw _ (List.mem_of_getElem? (i := 30) rfl)))) (mvT hZ (hw _ (List.mem_of_getElem? (i := 30) rfl))) (mvT hZ (hw _ (List.mem_of_getElem? (i := 29) rfl))) (by decide) (backOf (W := 0) (rmt0 l Z a0 hw [] la b2 k_b  T107.heap n0 Z0 F_la_levelCounts V_b2) hZ (hw _ (List.mem_of_getElem? (i := 31) rfl)) (hw _ (List.mem_of_getElem? (i := 5) rfl)) (by decide) (by decide)) q108a q108c (g := (mkF m 106 #[.val (.int i0), .val (.int i1), .val (.int i2), .val (.int i3), .val (.int (0 : Int32)), .val (.int c0), .val (.int c1), .val (.int c2), .val (.ref b), .val (.ref la), .unset] [(.ref la)])) rfl (by rw [hml]; rfl) (Steps.refl _) (argsL := []) (rest := []) (lenOf pd_1 rfl) rfl (by show 2 * 0 + _ ≤ _; exact Nat.le_of_eq rfl) (hb hby at_106) (fun _ _ => ⟨rfl, rfl, Nat.le_of_ble_eq_true rfl, Nat.le_of_ble_eq_true rfl⟩)
    dsimp only [Pt.U, Pt.locs, Pt.cells, Pt.slots] at X108 l108 y108 z108 st108 hQ108
    subst l108 y108 z108
    obtain ⟨tt, kt, rfl, N108q, K108, V_tt⟩ := hQ108
    have N108 := Fr.app N107 N108q
    have E_b := E_b.keep K108
    have V_b := V_b.keep K108 (by simp)
    have E_la := E_la.keep K108
    have Z0 := Nat.le_trans Z0 K108.1
    refine own_via (fun _ kt => st108.trans kt) ?_
    show own_G _ _ _ _ (T108.setTop (mkF m 109 #[.val (.int i0), .val (.int i1), .val (.int i2), .val (.int i3), .val (.int (0 : Int32)), .val (.int c0), .val (.int c1), .val (.int c2), .val (.ref b), .val (.ref la), .unset] [(.ref tt)]))
    refine own_via (fun _ k => XS.astore X108.here hx rfl (hb hby at_109) rfl rfl (l' := #[.val (.int i0), .val (.int i1), .val (.int i2), .val (.int i3), .val (.int (0 : Int32)), .val (.int c0), .val (.int c1), .val (.int c2), .val (.ref b), .val (.ref la), .val (.ref tt)]) rfl k) ?_
    show own_G _ _ _ _ (T108.setTop (mkF m 111 #[.val (.int i0), .val (.int i1), .val (.int i2), .val (.int i3), .val (.int (0 : Int32)), .val (.int c0), .val (.int c1), .val (.int c2), .val (.ref b), .val (.ref la), .val (.ref tt)] []))
    refine own_via (fun _ k => XS.aload X108.here hx rfl (hb hby at_111) rfl rfl k) ?_
    show own_G _ _ _ _ (T108.setTop (mkF m 113 #[.val (.int i0), .val (.int i1), .val (.int i2), .val (.int i3), .val (.int (0 : Int32)), .val (.int c0), .val (.int c1), .val (.int c2), .val (.ref b), .val (.ref la), .val (.ref tt)] [(.ref tt)]))
    refine own_via (fun _ k => XS.ifnullNo X108.here hx rfl (hb hby at_113) rfl k) ?_
    show own_G _ _ _ _ (T108.setTop (mkF m 116 #[.val (.int i0), .val (.int i1), .val (.int i2), .val (.int i3), .val (.int (0 : Int32)), .val (.int c0), .val (.int c1), .val (.int c2), .val (.ref b), .val (.ref la), .val (.ref tt)] []))
    refine own_via (fun _ k => XS.aload X108.here hx rfl (hb hby at_116) rfl rfl k) ?_
    show own_G _ _ _ _ (T108.setTop (mkF m 118 #[.val (.int i0), .val (.int i1), .val (.int i2), .val (.int i3), .val (.int (0 : Int32)), .val (.int c0), .val (.int c1), .val (.int c2), .val (.ref b), .val (.ref la), .val (.ref tt)] [(.ref tt)]))
    obtain ⟨cl109, Ar109, -, Sz109, Nn109, -, -⟩ := id V_tt
    refine own_via (fun _ k => X108.arraylength hx Ar109.1 (State.isArrayOf_alike hZ.alike Ar109.2.1) (g := (mkF m 118 #[.val (.int i0), .val (.int i1), .val (.int i2), .val (.int i3), .val (.int (0 : Int32)), .val (.int c0), .val (.int c1), .val (.int c2), .val (.ref b), .val (.ref la), .val (.ref tt)] [(.ref tt)])) rfl rfl (hb hby at_118) _ k) ?_
    rw [len_of Sz109 Nn109]
    show own_G _ _ _ _ (T108.setTop (mkF m 119 #[.val (.int i0), .val (.int i1), .val (.int i2), .val (.int i3), .val (.int (0 : Int32)), .val (.int c0), .val (.int c1), .val (.int c2), .val (.ref b), .val (.ref la), .val (.ref tt)] [(.int (0 : Int32))]))
    refine own_via (fun _ k => XS.iload X108.here hx rfl (hb hby at_119) rfl k) ?_
    show own_G _ _ _ _ (T108.setTop (mkF m 121 #[.val (.int i0), .val (.int i1), .val (.int i2), .val (.int i3), .val (.int (0 : Int32)), .val (.int c0), .val (.int c1), .val (.int c2), .val (.ref b), .val (.ref la), .val (.ref tt)] [(.int (0 : Int32)), (.int (0 : Int32))]))
    refine own_via (fun _ k => XS.icmpYes X108.here hx rfl (pc0 := 121) (pc' := 126) rfl (hb hby at_121) rfl (teq (by decide)).1 (by decide) (by decide) k) ?_
    show own_G _ _ _ _ (T108.setTop (mkF m 126 #[.val (.int i0), .val (.int i1), .val (.int i2), .val (.int i3), .val (.int (0 : Int32)), .val (.int c0), .val (.int c1), .val (.int c2), .val (.ref b), .val (.ref la), .val (.ref tt)] []))
    refine own_via (fun _ k => XS.iload X108.here hx rfl (hb hby at_126) rfl k) ?_
    show own_G _ _ _ _ (T108.setTop (mkF m 128 #[.val (.int i0), .val (.int i1), .val (.int i2), .val (.int i3), .val (.int (0 : Int32)), .val (.int c0), .val (.int c1), .val (.int c2), .val (.ref b), .val (.ref la), .val (.ref tt)] [(.int (0 : Int32))]))
    refine own_via (fun _ k => XS.ifYes X108.here hx rfl (pc0 := 128) (pc' := 144) rfl (hb hby at_128) rfl ((if0 _ _).trans (flt (by decide)).2.2.2) (by decide) (by decide) k) ?_
    show own_G _ _ _ _ (T108.setTop (mkF m 144 #[.val (.int i0), .val (.int i1), .val (.int i2), .val (.int i3), .val (.int (0 : Int32)), .val (.int c0), .val (.int c1), .val (.int c2), .val (.ref b), .val (.ref la), .val (.ref tt)] []))
    refine own_via (fun _ k => XS.iload X108.here hx rfl (hb hby at_144) rfl k) ?_
    show own_G _ _ _ _ (T108.setTop (mkF m 146 #[.val (.int i0), .val (.int i1), .val (.int i2), .val (.int i3), .val (.int (0 : Int32)), .val (.int c0), .val (.int c1), .val (.int c2), .val (.ref b), .val (.ref la), .val (.ref tt)] [(.int (0 : Int32))]))
    refine own_via (fun _ k => XS.iconst X108.here hx rfl (hb hby at_146) k) ?_
    show own_G _ _ _ _ (T108.setTop (mkF m 147 #[.val (.int i0), .val (.int i1), .val (.int i2), .val (.int i3), .val (.int (0 : Int32)), .val (.int c0), .val (.int c1), .val (.int c2), .val (.ref b), .val (.ref la), .val (.ref tt)] [(.int (1 : Int32)), (.int (0 : Int32))]))
    refine own_via (fun _ k => XS.icmpYes X108.here hx rfl (pc0 := 147) (pc' := 163) rfl (hb hby at_147) rfl (flt (by decide)).2.2.2 (by decide) (by decide) k) ?_
    show own_G _ _ _ _ (T108.setTop (mkF m 163 #[.val (.int i0), .val (.int i1), .val (.int i2), .val (.int i3), .val (.int (0 : Int32)), .val (.int c0), .val (.int c1), .val (.int c2), .val (.ref b), .val (.ref la), .val (.ref tt)] []))
    refine own_via (fun _ k => XS.iload X108.here hx rfl (hb hby at_163) rfl k) ?_
    show own_G _ _ _ _ (T108.setTop (mkF m 165 #[.val (.int i0), .val (.int i1), .val (.int i2), .val (.int i3), .val (.int (0 : Int32)), .val (.int c0), .val (.int c1), .val (.int c2), .val (.ref b), .val (.ref la), .val (.ref tt)] [(.int (0 : Int32))]))
    refine own_via (fun _ k => XS.iconst X108.here hx rfl (hb hby at_165) k) ?_
    show own_G _ _ _ _ (T108.setTop (mkF m 166 #[.val (.int i0), .val (.int i1), .val (.int i2), .val (.int i3), .val (.int (0 : Int32)), .val (.int c0), .val (.int c1), .val (.int c2), .val (.ref b), .val (.ref la), .val (.ref tt)] [(.int (2 : Int32)), (.int (0 : Int32))]))
    refine own_via (fun _ k => XS.icmpYes X108.here hx rfl (pc0 := 166) (pc' := 182) rfl (hb hby at_166) rfl (flt (by decide)).2.2.2 (by decide) (by decide) k) ?_
    show own_G _ _ _ _ (T108.setTop (mkF m 182 #[.val (.int i0), .val (.int i1), .val (.int i2), .val (.int i3), .val (.int (0 : Int32)), .val (.int c0), .val (.int c1), .val (.int c2), .val (.ref b), .val (.ref la), .val (.ref tt)] []))
    refine own_via (fun _ k => XS.iconst X108.here hx rfl (hb hby at_182) k) ?_
    show own_G _ _ _ _ (T108.setTop (mkF m 183 #[.val (.int i0), .val (.int i1), .val (.int i2), .val (.int i3), .val (.int (0 : Int32)), .val (.int c0), .val (.int c1), .val (.int c2), .val (.ref b), .val (.ref la), .val (.ref tt)] [(.int (1 : Int32))]))
    obtain ⟨fs, hr, hrun, hended, hW, hsame⟩ := X108.leave (v := some (.int (1 : Int32))) (fun h => by rw [Bd.returns] at h; cases h)
    exact ⟨_, _, retN X108 hx (t := .boolean) Bd.returns (by simp) (hb hby at_183) hr, hrun, hended, _, _, rfl, ⟨rfl, N108⟩, ⟨_, rfl⟩, hW, hsame.mono (by decide) (by decide)⟩
  · show own_G _ _ _ _ (s₁.setTop (mkF m 5 #[.val (.int i0), .val (.int i1), .val (.int i2), .val (.int i3), .val (.int (1 : Int32)), .unset, .unset, .unset, .unset, .unset, .unset] []))
    refine own_via (fun _ k => XS.iload X0.here hx rfl (hb hby at_5) rfl k) ?_
    show own_G _ _ _ _ (s₁.setTop (mkF m 7 #[.val (.int i0), .val (.int i1), .val (.int i2), .val (.int i3), .val (.int (1 : Int32)), .unset, .unset, .unset, .unset, .unset, .unset] [(.int (1 : Int32))]))
    refine own_via (fun _ k => XS.iconst X0.here hx rfl (hb hby at_7) k) ?_
    show own_G _ _ _ _ (s₁.setTop (mkF m 8 #[.val (.int i0), .val (.int i1), .val (.int i2), .val (.int i3), .val (.int (1 : Int32)), .unset, .unset, .unset, .unset, .unset, .unset] [(.int (1 : Int32)), (.int (1 : Int32))]))
    refine own_via (fun _ k => XS.icmpNo X0.here hx rfl (hb hby at_8) rfl (flt (by decide)).2.2.1 k) ?_
    show own_G _ _ _ _ (s₁.setTop (mkF m 11 #[.val (.int i0), .val (.int i1), .val (.int i2), .val (.int i3), .val (.int (1 : Int32)), .unset, .unset, .unset, .unset, .unset, .unset] []))
    refine own_via (fun _ k => XS.iloadN X0.here hx rfl (hb hby at_11) rfl k) ?_
    show own_G _ _ _ _ (s₁.setTop (mkF m 12 #[.val (.int i0), .val (.int i1), .val (.int i2), .val (.int i3), .val (.int (1 : Int32)), .unset, .unset, .unset, .unset, .unset, .unset] [(.int i1)]))
    refine own_via (fun _ k => X0.ldcInt hx hown (mvT hZ (hw _ (List.mem_of_getElem? (i := 0) rfl))) (g := (mkF m 12 #[.val (.int i0), .val (.int i1), .val (.int i2), .val (.int i3), .val (.int (1 : Int32)), .unset, .unset, .unset, .unset, .unset, .unset] [(.int i1)])) rfl (hb hby at_12) _ k) ?_
    show own_G _ _ _ _ (s₁.setTop (mkF m 14 #[.val (.int i0), .val (.int i1), .val (.int i2), .val (.int i3), .val (.int (1 : Int32)), .unset, .unset, .unset, .unset, .unset, .unset] [(.int (2147483647 : Int32)), (.int i1)]))
    refine own_via (fun _ k => XS.iand X0.here hx rfl (hb hby at_14) rfl k) ?_
    show own_G _ _ _ _ (s₁.setTop (mkF m 15 #[.val (.int i0), .val (.int i1), .val (.int i2), .val (.int i3), .val (.int (1 : Int32)), .unset, .unset, .unset, .unset, .unset, .unset] [(.int (i1 &&& (2147483647 : Int32)))]))
    refine own_via (fun _ k => X0.ldcInt hx hown (mvT hZ (hw _ (List.mem_of_getElem? (i := 1) rfl))) (g := (mkF m 15 #[.val (.int i0), .val (.int i1), .val (.int i2), .val (.int i3), .val (.int (1 : Int32)), .unset, .unset, .unset, .unset, .unset, .unset] [(.int (i1 &&& (2147483647 : Int32)))])) rfl (hb hby at_15) _ k) ?_
    show own_G _ _ _ _ (s₁.setTop (mkF m 17 #[.val (.int i0), .val (.int i1), .val (.int i2), .val (.int i3), .val (.int (1 : Int32)), .unset, .unset, .unset, .unset, .unset, .unset] [(.int (2147483639 : Int32)), (.int (i1 &&& (2147483647 : Int32)))]))
    refine own_via (fun _ k => iremM X0 hx rfl (hb hby at_17) rfl (by decide) k) ?_
    show own_G _ _ _ _ (s₁.setTop (mkF m 18 #[.val (.int i0), .val (.int i1), .val (.int i2), .val (.int i3), .val (.int (1 : Int32)), .unset, .unset, .unset, .unset, .unset, .unset] [(.int ((i1 &&& (2147483647 : Int32)) % (2147483639 : Int32)))]))
    refine own_via (fun _ k => XS.iconst X0.here hx rfl (hb hby at_18) k) ?_
    show own_G _ _ _ _ (s₁.setTop (mkF m 19 #[.val (.int i0), .val (.int i1), .val (.int i2), .val (.int i3), .val (.int (1 : Int32)), .unset, .unset, .unset, .unset, .unset, .unset] [(.int (1 : Int32)), (.int ((i1 &&& (2147483647 : Int32)) % (2147483639 : Int32)))]))
    refine own_via (fun _ k => XS.iadd X0.here hx rfl (hb hby at_19) rfl k) ?_
    show own_G _ _ _ _ (s₁.setTop (mkF m 20 #[.val (.int i0), .val (.int i1), .val (.int i2), .val (.int i3), .val (.int (1 : Int32)), .unset, .unset, .unset, .unset, .unset, .unset] [(.int (((i1 &&& (2147483647 : Int32)) % (2147483639 : Int32)) + (1 : Int32)))]))
    refine own_via (fun _ k => XS.istore X0.here hx rfl (hb hby at_20) rfl (l' := #[.val (.int i0), .val (.int i1), .val (.int i2), .val (.int i3), .val (.int (1 : Int32)), .val (.int (((i1 &&& (2147483647 : Int32)) % (2147483639 : Int32)) + (1 : Int32))), .unset, .unset, .unset, .unset, .unset]) rfl k) ?_
    show own_G _ _ _ _ (s₁.setTop (mkF m 22 #[.val (.int i0), .val (.int i1), .val (.int i2), .val (.int i3), .val (.int (1 : Int32)), .val (.int (((i1 &&& (2147483647 : Int32)) % (2147483639 : Int32)) + (1 : Int32))), .unset, .unset, .unset, .unset, .unset] []))
    refine own_via (fun _ k => XS.goto X0.here hx rfl (pc0 := 22) (pc' := 34) rfl (hb hby at_22) (by decide) (by decide) k) ?_
    show own_G _ _ _ _ (s₁.setTop (mkF m 34 #[.val (.int i0), .val (.int i1), .val (.int i2), .val (.int i3), .val (.int (1 : Int32)), .val (.int (((i1 &&& (2147483647 : Int32)) % (2147483639 : Int32)) + (1 : Int32))), .unset, .unset, .unset, .unset, .unset] []))
    have k0 := own_c0 (i1 &&& (2147483647 : Int32)) (by rw [show (i1 &&& (2147483647 : Int32)).toInt = i1.toInt % 2 ^ 31 from Jvm.Kit.i32_mask i1 2147483647 (by decide) (by decide)]; omega)
    obtain ⟨c0, hc0⟩ : ∃ z, z = (((i1 &&& (2147483647 : Int32)) % (2147483639 : Int32)) + (1 : Int32)) := ⟨_, rfl⟩
    rw [← hc0] at k0 ⊢
    show own_G _ _ _ _ (s₁.setTop (mkF m 34 #[.val (.int i0), .val (.int i1), .val (.int i2), .val (.int i3), .val (.int (1 : Int32)), .val (.int c0), .unset, .unset, .unset, .unset, .unset] []))
    refine own_via (fun _ k => XS.iloadN X0.here hx rfl (hb hby at_34) rfl k) ?_
    show own_G _ _ _ _ (s₁.setTop (mkF m 35 #[.val (.int i0), .val (.int i1), .val (.int i2), .val (.int i3), .val (.int (1 : Int32)), .val (.int c0), .unset, .unset, .unset, .unset, .unset] [(.int i2)]))
    refine own_via (fun _ k => XS.sipush X0.here hx rfl (hb hby at_35) k) ?_
    show own_G _ _ _ _ (s₁.setTop (mkF m 38 #[.val (.int i0), .val (.int i1), .val (.int i2), .val (.int i3), .val (.int (1 : Int32)), .val (.int c0), .unset, .unset, .unset, .unset, .unset] [(.int (1023 : Int32)), (.int i2)]))
    refine own_via (fun _ k => XS.iand X0.here hx rfl (hb hby at_38) rfl k) ?_
    show own_G _ _ _ _ (s₁.setTop (mkF m 39 #[.val (.int i0), .val (.int i1), .val (.int i2), .val (.int i3), .val (.int (1 : Int32)), .val (.int c0), .unset, .unset, .unset, .unset, .unset] [(.int (i2 &&& (1023 : Int32)))]))
    refine own_via (fun _ k => XS.iconst X0.here hx rfl (hb hby at_39) k) ?_
    show own_G _ _ _ _ (s₁.setTop (mkF m 40 #[.val (.int i0), .val (.int i1), .val (.int i2), .val (.int i3), .val (.int (1 : Int32)), .val (.int c0), .unset, .unset, .unset, .unset, .unset] [(.int (1 : Int32)), (.int (i2 &&& (1023 : Int32)))]))
    refine own_via (fun _ k => XS.iadd X0.here hx rfl (hb hby at_40) rfl k) ?_
    show own_G _ _ _ _ (s₁.setTop (mkF m 41 #[.val (.int i0), .val (.int i1), .val (.int i2), .val (.int i3), .val (.int (1 : Int32)), .val (.int c0), .unset, .unset, .unset, .unset, .unset] [(.int ((i2 &&& (1023 : Int32)) + (1 : Int32)))]))
    refine own_via (fun _ k => XS.istore X0.here hx rfl (hb hby at_41) rfl (l' := #[.val (.int i0), .val (.int i1), .val (.int i2), .val (.int i3), .val (.int (1 : Int32)), .val (.int c0), .val (.int ((i2 &&& (1023 : Int32)) + (1 : Int32))), .unset, .unset, .unset, .unset]) rfl k) ?_
    show own_G _ _ _ _ (s₁.setTop (mkF m 43 #[.val (.int i0), .val (.int i1), .val (.int i2), .val (.int i3), .val (.int (1 : Int32)), .val (.int c0), .val (.int ((i2 &&& (1023 : Int32)) + (1 : Int32))), .unset, .unset, .unset, .unset] []))
    have k1 := own_c i2 (Jvm.Kit.i32_mask i2 1023 (by decide) (by decide))
    obtain ⟨c1, hc1⟩ : ∃ z, z = ((i2 &&& (1023 : Int32)) + (1 : Int32)) := ⟨_, rfl⟩
    rw [← hc1] at k1 ⊢
    show own_G _ _ _ _ (s₁.setTop (mkF m 43 #[.val (.int i0), .val (.int i1), .val (.int i2), .val (.int i3), .val (.int (1 : Int32)), .val (.int c0), .val (.int c1), .unset, .unset, .unset, .unset] []))
    refine own_via (fun _ k => XS.iloadN X0.here hx rfl (hb hby at_43) rfl k) ?_
    show own_G _ _ _ _ (s₁.setTop (mkF m 44 #[.val (.int i0), .val (.int i1), .val (.int i2), .val (.int i3), .val (.int (1 : Int32)), .val (.int c0), .val (.int c1), .unset, .unset, .unset, .unset] [(.int i3)]))
    refine own_via (fun _ k => XS.sipush X0.here hx rfl (hb hby at_44) k) ?_
    show own_G _ _ _ _ (s₁.setTop (mkF m 47 #[.val (.int i0), .val (.int i1), .val (.int i2), .val (.int i3), .val (.int (1 : Int32)), .val (.int c0), .val (.int c1), .unset, .unset, .unset, .unset] [(.int (1023 : Int32)), (.int i3)]))
    refine own_via (fun _ k => XS.iand X0.here hx rfl (hb hby at_47) rfl k) ?_
    show own_G _ _ _ _ (s₁.setTop (mkF m 48 #[.val (.int i0), .val (.int i1), .val (.int i2), .val (.int i3), .val (.int (1 : Int32)), .val (.int c0), .val (.int c1), .unset, .unset, .unset, .unset] [(.int (i3 &&& (1023 : Int32)))]))
    refine own_via (fun _ k => XS.iconst X0.here hx rfl (hb hby at_48) k) ?_
    show own_G _ _ _ _ (s₁.setTop (mkF m 49 #[.val (.int i0), .val (.int i1), .val (.int i2), .val (.int i3), .val (.int (1 : Int32)), .val (.int c0), .val (.int c1), .unset, .unset, .unset, .unset] [(.int (1 : Int32)), (.int (i3 &&& (1023 : Int32)))]))
    refine own_via (fun _ k => XS.iadd X0.here hx rfl (hb hby at_49) rfl k) ?_
    show own_G _ _ _ _ (s₁.setTop (mkF m 50 #[.val (.int i0), .val (.int i1), .val (.int i2), .val (.int i3), .val (.int (1 : Int32)), .val (.int c0), .val (.int c1), .unset, .unset, .unset, .unset] [(.int ((i3 &&& (1023 : Int32)) + (1 : Int32)))]))
    refine own_via (fun _ k => XS.istore X0.here hx rfl (hb hby at_50) rfl (l' := #[.val (.int i0), .val (.int i1), .val (.int i2), .val (.int i3), .val (.int (1 : Int32)), .val (.int c0), .val (.int c1), .val (.int ((i3 &&& (1023 : Int32)) + (1 : Int32))), .unset, .unset, .unset]) rfl k) ?_
    show own_G _ _ _ _ (s₁.setTop (mkF m 52 #[.val (.int i0), .val (.int i1), .val (.int i2), .val (.int i3), .val (.int (1 : Int32)), .val (.int c0), .val (.int c1), .val (.int ((i3 &&& (1023 : Int32)) + (1 : Int32))), .unset, .unset, .unset] []))
    have k2 := own_c i3 (Jvm.Kit.i32_mask i3 1023 (by decide) (by decide))
    obtain ⟨c2, hc2⟩ : ∃ z, z = ((i3 &&& (1023 : Int32)) + (1 : Int32)) := ⟨_, rfl⟩
    rw [← hc2] at k2 ⊢
    show own_G _ _ _ _ (s₁.setTop (mkF m 52 #[.val (.int i0), .val (.int i1), .val (.int i2), .val (.int i3), .val (.int (1 : Int32)), .val (.int c0), .val (.int c1), .val (.int c2), .unset, .unset, .unset] []))
    refine own_via (fun _ k => XS.iload X0.here hx rfl (hb hby at_52) rfl k) ?_
    show own_G _ _ _ _ (s₁.setTop (mkF m 54 #[.val (.int i0), .val (.int i1), .val (.int i2), .val (.int i3), .val (.int (1 : Int32)), .val (.int c0), .val (.int c1), .val (.int c2), .unset, .unset, .unset] [(.int (1 : Int32))]))
    obtain ⟨T110, h110, k_b, X110, e110, E110, A110, EA110, st110⟩ := newPE X0 hx hZ (hw _ (List.mem_of_getElem? (i := 2) rfl)) e0 (g := (mkF m 54 #[.val (.int i0), .val (.int i1), .val (.int i2), .val (.int i3), .val (.int (1 : Int32)), .val (.int c0), .val (.int c1), .val (.int c2), .unset, .unset, .unset] [(.int (1 : Int32))])) rfl (hb hby at_54) rfl (by decide) (cap := 1) (by decide) (by decide) (by decide) (by decide) (ad := "[I") rfl
    obtain ⟨b, g110⟩ : ∃ z, z = h0.size := ⟨_, rfl⟩
    rw [← g110] at A110 EA110 st110
    have g_b : n0 ≤ b := Nat.le_trans Z0 (Nat.le_of_eq g110.symm)
    have Z0 := Nat.le_trans Z0 E110.1
    have E_b := EA110
    have V_b : Arv Z h110 b k_b .int (1 : Int32) [(.int (0 : Int32))] (.int (0 : Int32)) := (Arv.new A110 (by decide)).pad (pad_rep [] (.int (0 : Int32)) 1)
    refine own_via st110 ?_
    show own_G _ _ _ _ (T110.setTop (mkF m 56 #[.val (.int i0), .val (.int i1), .val (.int i2), .val (.int i3), .val (.int (1 : Int32)), .val (.int c0), .val (.int c1), .val (.int c2), .unset, .unset, .unset] [(.ref b)]))
    refine own_via (fun _ k => XS.astore X110.here hx rfl (hb hby at_56) rfl rfl (l' := #[.val (.int i0), .val (.int i1), .val (.int i2), .val (.int i3), .val (.int (1 : Int32)), .val (.int c0), .val (.int c1), .val (.int c2), .val (.ref b), .unset, .unset]) rfl k) ?_
    show own_G _ _ _ _ (T110.setTop (mkF m 58 #[.val (.int i0), .val (.int i1), .val (.int i2), .val (.int i3), .val (.int (1 : Int32)), .val (.int c0), .val (.int c1), .val (.int c2), .val (.ref b), .unset, .unset] []))
    refine own_via (fun _ k => XS.iload X110.here hx rfl (hb hby at_58) rfl k) ?_
    show own_G _ _ _ _ (T110.setTop (mkF m 60 #[.val (.int i0), .val (.int i1), .val (.int i2), .val (.int i3), .val (.int (1 : Int32)), .val (.int c0), .val (.int c1), .val (.int c2), .val (.ref b), .unset, .unset] [(.int (1 : Int32))]))
    refine own_via (fun _ k => XS.ifNo X110.here hx rfl (hb hby at_60) rfl ((if0 _ _).trans (tlt (by decide)).2.2.2) k) ?_
    show own_G _ _ _ _ (T110.setTop (mkF m 63 #[.val (.int i0), .val (.int i1), .val (.int i2), .val (.int i3), .val (.int (1 : Int32)), .val (.int c0), .val (.int c1), .val (.int c2), .val (.ref b), .unset, .unset] []))
    refine own_via (fun _ k => XS.aload X110.here hx rfl (hb hby at_63) rfl rfl k) ?_
    show own_G _ _ _ _ (T110.setTop (mkF m 65 #[.val (.int i0), .val (.int i1), .val (.int i2), .val (.int i3), .val (.int (1 : Int32)), .val (.int c0), .val (.int c1), .val (.int c2), .val (.ref b), .unset, .unset] [(.ref b)]))
    refine own_via (fun _ k => XS.iconst X110.here hx rfl (hb hby at_65) k) ?_
    show own_G _ _ _ _ (T110.setTop (mkF m 66 #[.val (.int i0), .val (.int i1), .val (.int i2), .val (.int i3), .val (.int (1 : Int32)), .val (.int c0), .val (.int c1), .val (.int c2), .val (.ref b), .unset, .unset] [(.int (0 : Int32)), (.ref b)]))
    refine own_via (fun _ k => XS.iload X110.here hx rfl (hb hby at_66) rfl k) ?_
    show own_G _ _ _ _ (T110.setTop (mkF m 68 #[.val (.int i0), .val (.int i1), .val (.int i2), .val (.int i3), .val (.int (1 : Int32)), .val (.int c0), .val (.int c1), .val (.int c2), .val (.ref b), .unset, .unset] [(.int c0), (.int (0 : Int32)), (.ref b)]))
    obtain ⟨cl_b, Ar_b, q_b, S_b, Nn_b, H_b, G_b⟩ := V_b
    have hin111 : ¬ ((0 : Int32) < 0 ∨ cl_b.slots.size ≤ ((0 : Int32)).toNatClampNeg) := inb_of S_b ⟨by decide, by decide⟩
    obtain ⟨T111, h111, X111, e111, W111, st111⟩ := stI X110 hx hZ e110 Ar_b (j := (0 : Int32)) hin111 (g := (mkF m 68 #[.val (.int i0), .val (.int i1), .val (.int i2), .val (.int i3), .val (.int (1 : Int32)), .val (.int c0), .val (.int c1), .val (.int c2), .val (.ref b), .unset, .unset] [(.int c0), (.int (0 : Int32)), (.ref b)])) rfl rfl (hb hby at_68)
    have V_b : Arv Z h111 b k_b .int (1 : Int32) ([(.int c0)] : List Value) (.int (0 : Int32)) := Arv.set Ar_b q_b S_b Nn_b H_b G_b rfl W111 0 rfl (Nat.le_of_ble_eq_true rfl)
    have E_b := E_b.wr W111
    have Z0 := Nat.le_trans Z0 (Keep.of_wr W111).1
    have N111 := Fr.snoc X111 N0 g_b
    refine own_via st111 ?_
    show own_G _ _ _ _ (T111.setTop (mkF m 69 #[.val (.int i0), .val (.int i1), .val (.int i2), .val (.int i3), .val (.int (1 : Int32)), .val (.int c0), .val (.int c1), .val (.int c2), .val (.ref b), .unset, .unset] []))
    refine own_via (fun _ k => XS.iload X111.here hx rfl (hb hby at_69) rfl k) ?_
    show own_G _ _ _ _ (T111.setTop (mkF m 71 #[.val (.int i0), .val (.int i1), .val (.int i2), .val (.int i3), .val (.int (1 : Int32)), .val (.int c0), .val (.int c1), .val (.int c2), .val (.ref b), .unset, .unset] [(.int (1 : Int32))]))
    refine own_via (fun _ k => XS.iconst X111.here hx rfl (hb hby at_71) k) ?_
    show own_G _ _ _ _ (T111.setTop (mkF m 72 #[.val (.int i0), .val (.int i1), .val (.int i2), .val (.int i3), .val (.int (1 : Int32)), .val (.int c0), .val (.int c1), .val (.int c2), .val (.ref b), .unset, .unset] [(.int (1 : Int32)), (.int (1 : Int32))]))
    refine own_via (fun _ k => XS.icmpYes X111.here hx rfl (pc0 := 72) (pc' := 81) rfl (hb hby at_72) rfl (flt (by decide)).2.2.2 (by decide) (by decide) k) ?_
    show own_G _ _ _ _ (T111.setTop (mkF m 81 #[.val (.int i0), .val (.int i1), .val (.int i2), .val (.int i3), .val (.int (1 : Int32)), .val (.int c0), .val (.int c1), .val (.int c2), .val (.ref b), .unset, .unset] []))
    refine own_via (fun _ k => XS.iload X111.here hx rfl (hb hby at_81) rfl k) ?_
    show own_G _ _ _ _ (T111.setTop (mkF m 83 #[.val (.int i0), .val (.int i1), .val (.int i2), .val (.int i3), .val (.int (1 : Int32)), .val (.int c0), .val (.int c1), .val (.int c2), .val (.ref b), .unset, .unset] [(.int (1 : Int32))]))
    refine own_via (fun _ k => XS.iconst X111.here hx rfl (hb hby at_83) k) ?_
    show own_G _ _ _ _ (T111.setTop (mkF m 84 #[.val (.int i0), .val (.int i1), .val (.int i2), .val (.int i3), .val (.int (1 : Int32)), .val (.int c0), .val (.int c1), .val (.int c2), .val (.ref b), .unset, .unset] [(.int (2 : Int32)), (.int (1 : Int32))]))
    refine own_via (fun _ k => XS.icmpYes X111.here hx rfl (pc0 := 84) (pc' := 93) rfl (hb hby at_84) rfl (flt (by decide)).2.2.2 (by decide) (by decide) k) ?_
    show own_G _ _ _ _ (T111.setTop (mkF m 93 #[.val (.int i0), .val (.int i1), .val (.int i2), .val (.int i3), .val (.int (1 : Int32)), .val (.int c0), .val (.int c1), .val (.int c2), .val (.ref b), .unset, .unset] []))
    obtain ⟨T112, h112, X112, e112, E112, A112, D112, -, st112⟩ := newO X111 hx hZ hown (hw _ (List.mem_of_getElem? (i := 3) rfl)) (hw _ (List.mem_of_getElem? (i := 4) rfl)) (hw _ (List.mem_of_getElem? (i := 5) rfl)) e111 (g := (mkF m 93 #[.val (.int i0), .val (.int i1), .val (.int i2), .val (.int i3), .val (.int (1 : Int32)), .val (.int c0), .val (.int c1), .val (.int c2), .val (.ref b), .unset, .unset] [])) rfl (hb hby at_93) (by decide) (by decide)
    obtain ⟨la, g112⟩ : ∃ z, z = h111.size := ⟨_, rfl⟩
    rw [← g112] at A112 D112 st112
    have g_la : n0 ≤ la := Nat.le_trans Z0 (Nat.le_of_eq g112.symm)
    have ne_b_la : b ≠ la := Nat.ne_of_lt (Nat.lt_of_lt_of_le E_b.lt (Nat.le_of_eq g112.symm))
    have E_b := E_b.ext E112
    have V_b := V_b.ext E112
    have Z0 := Nat.le_trans Z0 E112.1
    have E_la := A112
    have F_la_levelCounts : Fld Z h112 la "com/example/vanon/vanon/lattice/Lattice" "levelCounts" "[I" .null := D112 (Or.inr (hw _ (List.mem_of_getElem? (i := 22) rfl))) (ty := (.array .int)) (by decide)
    have F_la_strides : Fld Z h112 la "com/example/vanon/vanon/lattice/Lattice" "strides" "[I" .null := D112 (Or.inr (hw _ (List.mem_of_getElem? (i := 24) rfl))) (ty := (.array .int)) (by decide)
    have F_la_size : Fld Z h112 la "com/example/vanon/vanon/lattice/Lattice" "size" "I" (.int (0 : Int32)) := D112 (Or.inr (hw _ (List.mem_of_getElem? (i := 26) rfl))) (ty := .int) (by decide)
    refine own_via st112 ?_
    show own_G _ _ _ _ (T112.setTop (mkF m 96 #[.val (.int i0), .val (.int i1), .val (.int i2), .val (.int i3), .val (.int (1 : Int32)), .val (.int c0), .val (.int c1), .val (.int c2), .val (.ref b), .unset, .unset] [(.ref la)]))
    refine own_via (fun _ k => XS.dup X112.here hx rfl (hb hby at_96) rfl rfl k) ?_
    show own_G _ _ _ _ (T112.setTop (mkF m 97 #[.val (.int i0), .val (.int i1), .val (.int i2), .val (.int i3), .val (.int (1 : Int32)), .val (.int c0), .val (.int c1), .val (.int c2), .val (.ref b), .unset, .unset] [(.ref la), (.ref la)]))
    refine own_via (fun _ k => XS.aload X112.here hx rfl (hb hby at_97) rfl rfl k) ?_
    show own_G _ _ _ _ (T112.setTop (mkF m 99 #[.val (.int i0), .val (.int i1), .val (.int i2), .val (.int i3), .val (.int (1 : Int32)), .val (.int c0), .val (.int c1), .val (.int c2), .val (.ref b), .unset, .unset] [(.ref b), (.ref la), (.ref la)]))
    have u0 : 0 ≤ (1 : Int64).toInt ∧ (1 : Int64).toInt ≤ 1 := by decide
    have u1 := own_pr (p := (1 : Int64)) (c := c0) (B := 1) u0.1 u0.2 k0.1 k0.2 (by decide)
    obtain ⟨_, _, ⟨T113, L113, k113, n113⟩, -, X113, ⟨Lc113, hQ113, l113, y113, z113⟩, st113⟩ := X112.specialBack hx (y := (⟨"com/example/vanon/vanon/lattice/Lattice", "<init>", "([I)V"⟩ : MethodName)) rfl hown (mvT hZ (hw _ (List.mem_of_getElem? (i := 6) rfl))) (mvT hZ (hw _ (List.mem_of_getElem? (i := 7) rfl))) (mvT hZ (hw _ (List.mem_of_getElem? (i := 8) rfl))) (by decide) (backOf (W := 1) (rmc1 l Z a0 hw [] la b k_b c0 h112 n0 Z0 E_la F_la_levelCounts F_la_strides F_la_size E_b V_b g_la (Ne.symm ne_b_la) k0.1 (own_big u1.2 (by decide))) hZ (hw _ (List.mem_of_getElem? (i := 8) rfl)) (hw _ (List.mem_of_getElem? (i := 5) rfl)) (by decide) (by decide)) (g := (mkF m 99 #[.val (.int i0), .val (.int i1), .val (.int i2), .val (.int i3), .val (.int (1 : Int32)), .val (.int c0), .val (.int c1), .val (.int c2), .val (.ref b), .unset, .unset] [(.ref b), (.ref la), (.ref la)])) rfl (by rw [hml]; rfl) (Steps.refl _) (a := la) (argsL := [(.ref b)]) (rest := [(.ref la)]) (lenOf pd_0 rfl) rfl (by show 2 * 0 + _ ≤ _; exact Nat.le_of_eq rfl) (hb hby at_99) (fun _ _ => ⟨rfl, e112, Nat.le_of_ble_eq_true rfl, Nat.le_of_ble_eq_true rfl⟩)
    dsimp only [Pt.U, Pt.locs, Pt.cells, Pt.slots] at X113 l113 y113 z113 st113 hQ113
    subst l113 y113 z113
    obtain ⟨rfl, N113q, K113, -, b2, b3, k3, g_b2, g_b3, F_la_levelCounts, V_b2, F_la_strides, V_b3, F_la_size⟩ := hQ113
    have N113 := Fr.app N111 N113q
    have E_b := E_b.keep K113
    have V_b := V_b.keep K113 (by simp [ne_b_la])
    have E_la := E_la.keep K113
    have Z0 := Nat.le_trans Z0 K113.1
    refine own_via (fun _ kt => st113.trans kt) ?_
    show own_G _ _ _ _ (T113.setTop (mkF m 102 #[.val (.int i0), .val (.int i1), .val (.int i2), .val (.int i3), .val (.int (1 : Int32)), .val (.int c0), .val (.int c1), .val (.int c2), .val (.ref b), .unset, .unset] [(.ref la)]))
    refine own_via (fun _ k => XS.astore X113.here hx rfl (hb hby at_102) rfl rfl (l' := #[.val (.int i0), .val (.int i1), .val (.int i2), .val (.int i3), .val (.int (1 : Int32)), .val (.int c0), .val (.int c1), .val (.int c2), .val (.ref b), .val (.ref la), .unset]) rfl k) ?_
    show own_G _ _ _ _ (T113.setTop (mkF m 104 #[.val (.int i0), .val (.int i1), .val (.int i2), .val (.int i3), .val (.int (1 : Int32)), .val (.int c0), .val (.int c1), .val (.int c2), .val (.ref b), .val (.ref la), .unset] []))
    refine own_via (fun _ k => XS.aload X113.here hx rfl (hb hby at_104) rfl rfl k) ?_
    show own_G _ _ _ _ (T113.setTop (mkF m 106 #[.val (.int i0), .val (.int i1), .val (.int i2), .val (.int i3), .val (.int (1 : Int32)), .val (.int c0), .val (.int c1), .val (.int c2), .val (.ref b), .val (.ref la), .unset] [(.ref la)]))
    obtain ⟨cq114, kq114, q114a, q114b, q114c⟩ := isOf hZ rfl E_la
    obtain ⟨_, _, ⟨T114, L114, k114, n114⟩, -, X114, ⟨Lc114, hQ114, l114, y114, z114⟩, st114⟩ := X113.virtualBack hx (y := (⟨"com/example/vanon/vanon/lattice/Lattice", "top", "()[I"⟩ : MethodName)) (z := (⟨"com/example/vanon/vanon/lattice/Lattice", "top", "()[I"⟩ : MethodName)) hown (mvT hZ (hw _ (List.mem_of_getElem? (i := 27) rfl))) (mvT hZ (hw _ (List.mem_of_getElem? (i := 28) rfl))) (notFace_of_selects (args := #[]) (mvT hZ (hw _ (List.mem_of_getElem? (i := 30) rfl)))) (mvT hZ (hw _ (List.mem_of_getElem? (i := 30) rfl))) (mvT hZ (hw _ (List.mem_of_getElem? (i := 29) rfl))) (by decide) (backOf (W := 0) (rmt1 l Z a0 hw [] la b2 k_b c0 T113.heap n0 Z0 F_la_levelCounts V_b2) hZ (hw _ (List.mem_of_getElem? (i := 31) rfl)) (hw _ (List.mem_of_getElem? (i := 5) rfl)) (by decide) (by decide)) q114a q114c (g := (mkF m 106 #[.val (.int i0), .val (.int i1), .val (.int i2), .val (.int i3), .val (.int (1 : Int32)), .val (.int c0), .val (.int c1), .val (.int c2), .val (.ref b), .val (.ref la), .unset] [(.ref la)])) rfl (by rw [hml]; rfl) (Steps.refl _) (argsL := []) (rest := []) (lenOf pd_1 rfl) rfl (by show 2 * 0 + _ ≤ _; exact Nat.le_of_eq rfl) (hb hby at_106) (fun _ _ => ⟨rfl, rfl, Nat.le_of_ble_eq_true rfl, Nat.le_of_ble_eq_true rfl⟩)
    dsimp only [Pt.U, Pt.locs, Pt.cells, Pt.slots] at X114 l114 y114 z114 st114 hQ114
    subst l114 y114 z114
    obtain ⟨tt, kt, rfl, N114q, K114, V_tt⟩ := hQ114
    have N114 := Fr.app N113 N114q
    have E_b := E_b.keep K114
    have V_b := V_b.keep K114 (by simp)
    have E_la := E_la.keep K114
    have Z0 := Nat.le_trans Z0 K114.1
    refine own_via (fun _ kt => st114.trans kt) ?_
    show own_G _ _ _ _ (T114.setTop (mkF m 109 #[.val (.int i0), .val (.int i1), .val (.int i2), .val (.int i3), .val (.int (1 : Int32)), .val (.int c0), .val (.int c1), .val (.int c2), .val (.ref b), .val (.ref la), .unset] [(.ref tt)]))
    refine own_via (fun _ k => XS.astore X114.here hx rfl (hb hby at_109) rfl rfl (l' := #[.val (.int i0), .val (.int i1), .val (.int i2), .val (.int i3), .val (.int (1 : Int32)), .val (.int c0), .val (.int c1), .val (.int c2), .val (.ref b), .val (.ref la), .val (.ref tt)]) rfl k) ?_
    show own_G _ _ _ _ (T114.setTop (mkF m 111 #[.val (.int i0), .val (.int i1), .val (.int i2), .val (.int i3), .val (.int (1 : Int32)), .val (.int c0), .val (.int c1), .val (.int c2), .val (.ref b), .val (.ref la), .val (.ref tt)] []))
    refine own_via (fun _ k => XS.aload X114.here hx rfl (hb hby at_111) rfl rfl k) ?_
    show own_G _ _ _ _ (T114.setTop (mkF m 113 #[.val (.int i0), .val (.int i1), .val (.int i2), .val (.int i3), .val (.int (1 : Int32)), .val (.int c0), .val (.int c1), .val (.int c2), .val (.ref b), .val (.ref la), .val (.ref tt)] [(.ref tt)]))
    refine own_via (fun _ k => XS.ifnullNo X114.here hx rfl (hb hby at_113) rfl k) ?_
    show own_G _ _ _ _ (T114.setTop (mkF m 116 #[.val (.int i0), .val (.int i1), .val (.int i2), .val (.int i3), .val (.int (1 : Int32)), .val (.int c0), .val (.int c1), .val (.int c2), .val (.ref b), .val (.ref la), .val (.ref tt)] []))
    refine own_via (fun _ k => XS.aload X114.here hx rfl (hb hby at_116) rfl rfl k) ?_
    show own_G _ _ _ _ (T114.setTop (mkF m 118 #[.val (.int i0), .val (.int i1), .val (.int i2), .val (.int i3), .val (.int (1 : Int32)), .val (.int c0), .val (.int c1), .val (.int c2), .val (.ref b), .val (.ref la), .val (.ref tt)] [(.ref tt)]))
    obtain ⟨cl115, Ar115, -, Sz115, Nn115, -, -⟩ := id V_tt
    refine own_via (fun _ k => X114.arraylength hx Ar115.1 (State.isArrayOf_alike hZ.alike Ar115.2.1) (g := (mkF m 118 #[.val (.int i0), .val (.int i1), .val (.int i2), .val (.int i3), .val (.int (1 : Int32)), .val (.int c0), .val (.int c1), .val (.int c2), .val (.ref b), .val (.ref la), .val (.ref tt)] [(.ref tt)])) rfl rfl (hb hby at_118) _ k) ?_
    rw [len_of Sz115 Nn115]
    show own_G _ _ _ _ (T114.setTop (mkF m 119 #[.val (.int i0), .val (.int i1), .val (.int i2), .val (.int i3), .val (.int (1 : Int32)), .val (.int c0), .val (.int c1), .val (.int c2), .val (.ref b), .val (.ref la), .val (.ref tt)] [(.int (1 : Int32))]))
    refine own_via (fun _ k => XS.iload X114.here hx rfl (hb hby at_119) rfl k) ?_
    show own_G _ _ _ _ (T114.setTop (mkF m 121 #[.val (.int i0), .val (.int i1), .val (.int i2), .val (.int i3), .val (.int (1 : Int32)), .val (.int c0), .val (.int c1), .val (.int c2), .val (.ref b), .val (.ref la), .val (.ref tt)] [(.int (1 : Int32)), (.int (1 : Int32))]))
    refine own_via (fun _ k => XS.icmpYes X114.here hx rfl (pc0 := 121) (pc' := 126) rfl (hb hby at_121) rfl (teq (by decide)).1 (by decide) (by decide) k) ?_
    show own_G _ _ _ _ (T114.setTop (mkF m 126 #[.val (.int i0), .val (.int i1), .val (.int i2), .val (.int i3), .val (.int (1 : Int32)), .val (.int c0), .val (.int c1), .val (.int c2), .val (.ref b), .val (.ref la), .val (.ref tt)] []))
    refine own_via (fun _ k => XS.iload X114.here hx rfl (hb hby at_126) rfl k) ?_
    show own_G _ _ _ _ (T114.setTop (mkF m 128 #[.val (.int i0), .val (.int i1), .val (.int i2), .val (.int i3), .val (.int (1 : Int32)), .val (.int c0), .val (.int c1), .val (.int c2), .val (.ref b), .val (.ref la), .val (.ref tt)] [(.int (1 : Int32))]))
    refine own_via (fun _ k => XS.ifNo X114.here hx rfl (hb hby at_128) rfl ((if0 _ _).trans (tlt (by decide)).2.2.2) k) ?_
    show own_G _ _ _ _ (T114.setTop (mkF m 131 #[.val (.int i0), .val (.int i1), .val (.int i2), .val (.int i3), .val (.int (1 : Int32)), .val (.int c0), .val (.int c1), .val (.int c2), .val (.ref b), .val (.ref la), .val (.ref tt)] []))
    refine own_via (fun _ k => XS.aload X114.here hx rfl (hb hby at_131) rfl rfl k) ?_
    show own_G _ _ _ _ (T114.setTop (mkF m 133 #[.val (.int i0), .val (.int i1), .val (.int i2), .val (.int i3), .val (.int (1 : Int32)), .val (.int c0), .val (.int c1), .val (.int c2), .val (.ref b), .val (.ref la), .val (.ref tt)] [(.ref tt)]))
    refine own_via (fun _ k => XS.iconst X114.here hx rfl (hb hby at_133) k) ?_
    show own_G _ _ _ _ (T114.setTop (mkF m 134 #[.val (.int i0), .val (.int i1), .val (.int i2), .val (.int i3), .val (.int (1 : Int32)), .val (.int c0), .val (.int c1), .val (.int c2), .val (.ref b), .val (.ref la), .val (.ref tt)] [(.int (0 : Int32)), (.ref tt)]))
    obtain ⟨cl116, Ar116, -, Sz116, Nn116, Hh116, -⟩ := id V_tt
    have hin116 : ¬ ((0 : Int32) < 0 ∨ cl116.slots.size ≤ ((0 : Int32)).toNatClampNeg) := inb_of Sz116 ⟨by decide, by decide⟩
    have hat116 : cl116.slots[((0 : Int32)).toNatClampNeg]? = some (.int (c0 - (1 : Int32))) := Has.at Hh116 hin116 rfl
    refine own_via (fun _ k => X114.iaload hx (j := (0 : Int32)) (v := (.int (c0 - (1 : Int32)))) Ar116.1 (State.isArrayOf_alike hZ.alike Ar116.2.1) Ar116.2.2 hin116 hat116 (g := (mkF m 134 #[.val (.int i0), .val (.int i1), .val (.int i2), .val (.int i3), .val (.int (1 : Int32)), .val (.int c0), .val (.int c1), .val (.int c2), .val (.ref b), .val (.ref la), .val (.ref tt)] [(.int (0 : Int32)), (.ref tt)])) rfl rfl (hb hby at_134) _ k) ?_
    show own_G _ _ _ _ (T114.setTop (mkF m 135 #[.val (.int i0), .val (.int i1), .val (.int i2), .val (.int i3), .val (.int (1 : Int32)), .val (.int c0), .val (.int c1), .val (.int c2), .val (.ref b), .val (.ref la), .val (.ref tt)] [(.int (c0 - (1 : Int32)))]))
    refine own_via (fun _ k => XS.iload X114.here hx rfl (hb hby at_135) rfl k) ?_
    show own_G _ _ _ _ (T114.setTop (mkF m 137 #[.val (.int i0), .val (.int i1), .val (.int i2), .val (.int i3), .val (.int (1 : Int32)), .val (.int c0), .val (.int c1), .val (.int c2), .val (.ref b), .val (.ref la), .val (.ref tt)] [(.int c0), (.int (c0 - (1 : Int32)))]))
    refine own_via (fun _ k => XS.iconst X114.here hx rfl (hb hby at_137) k) ?_
    show own_G _ _ _ _ (T114.setTop (mkF m 138 #[.val (.int i0), .val (.int i1), .val (.int i2), .val (.int i3), .val (.int (1 : Int32)), .val (.int c0), .val (.int c1), .val (.int c2), .val (.ref b), .val (.ref la), .val (.ref tt)] [(.int (1 : Int32)), (.int c0), (.int (c0 - (1 : Int32)))]))
    refine own_via (fun _ k => XS.isub X114.here hx rfl (hb hby at_138) rfl k) ?_
    show own_G _ _ _ _ (T114.setTop (mkF m 139 #[.val (.int i0), .val (.int i1), .val (.int i2), .val (.int i3), .val (.int (1 : Int32)), .val (.int c0), .val (.int c1), .val (.int c2), .val (.ref b), .val (.ref la), .val (.ref tt)] [(.int (c0 - (1 : Int32))), (.int (c0 - (1 : Int32)))]))
    refine own_via (fun _ k => XS.icmpYes X114.here hx rfl (pc0 := 139) (pc' := 144) rfl (hb hby at_139) rfl (teq rfl).1 (by decide) (by decide) k) ?_
    show own_G _ _ _ _ (T114.setTop (mkF m 144 #[.val (.int i0), .val (.int i1), .val (.int i2), .val (.int i3), .val (.int (1 : Int32)), .val (.int c0), .val (.int c1), .val (.int c2), .val (.ref b), .val (.ref la), .val (.ref tt)] []))
    refine own_via (fun _ k => XS.iload X114.here hx rfl (hb hby at_144) rfl k) ?_
    show own_G _ _ _ _ (T114.setTop (mkF m 146 #[.val (.int i0), .val (.int i1), .val (.int i2), .val (.int i3), .val (.int (1 : Int32)), .val (.int c0), .val (.int c1), .val (.int c2), .val (.ref b), .val (.ref la), .val (.ref tt)] [(.int (1 : Int32))]))
    refine own_via (fun _ k => XS.iconst X114.here hx rfl (hb hby at_146) k) ?_
    show own_G _ _ _ _ (T114.setTop (mkF m 147 #[.val (.int i0), .val (.int i1), .val (.int i2), .val (.int i3), .val (.int (1 : Int32)), .val (.int c0), .val (.int c1), .val (.int c2), .val (.ref b), .val (.ref la), .val (.ref tt)] [(.int (1 : Int32)), (.int (1 : Int32))]))
    refine own_via (fun _ k => XS.icmpYes X114.here hx rfl (pc0 := 147) (pc' := 163) rfl (hb hby at_147) rfl (flt (by decide)).2.2.2 (by decide) (by decide) k) ?_
    show own_G _ _ _ _ (T114.setTop (mkF m 163 #[.val (.int i0), .val (.int i1), .val (.int i2), .val (.int i3), .val (.int (1 : Int32)), .val (.int c0), .val (.int c1), .val (.int c2), .val (.ref b), .val (.ref la), .val (.ref tt)] []))
    refine own_via (fun _ k => XS.iload X114.here hx rfl (hb hby at_163) rfl k) ?_
    show own_G _ _ _ _ (T114.setTop (mkF m 165 #[.val (.int i0), .val (.int i1), .val (.int i2), .val (.int i3), .val (.int (1 : Int32)), .val (.int c0), .val (.int c1), .val (.int c2), .val (.ref b), .val (.ref la), .val (.ref tt)] [(.int (1 : Int32))]))
    refine own_via (fun _ k => XS.iconst X114.here hx rfl (hb hby at_165) k) ?_
    show own_G _ _ _ _ (T114.setTop (mkF m 166 #[.val (.int i0), .val (.int i1), .val (.int i2), .val (.int i3), .val (.int (1 : Int32)), .val (.int c0), .val (.int c1), .val (.int c2), .val (.ref b), .val (.ref la), .val (.ref tt)] [(.int (2 : Int32)), (.int (1 : Int32))]))
    refine own_via (fun _ k => XS.icmpYes X114.here hx rfl (pc0 := 166) (pc' := 182) rfl (hb hby at_166) rfl (flt (by decide)).2.2.2 (by decide) (by decide) k) ?_
    show own_G _ _ _ _ (T114.setTop (mkF m 182 #[.val (.int i0), .val (.int i1), .val (.int i2), .val (.int i3), .val (.int (1 : Int32)), .val (.int c0), .val (.int c1), .val (.int c2), .val (.ref b), .val (.ref la), .val (.ref tt)] []))
    refine own_via (fun _ k => XS.iconst X114.here hx rfl (hb hby at_182) k) ?_
    show own_G _ _ _ _ (T114.setTop (mkF m 183 #[.val (.int i0), .val (.int i1), .val (.int i2), .val (.int i3), .val (.int (1 : Int32)), .val (.int c0), .val (.int c1), .val (.int c2), .val (.ref b), .val (.ref la), .val (.ref tt)] [(.int (1 : Int32))]))
    obtain ⟨fs, hr, hrun, hended, hW, hsame⟩ := X114.leave (v := some (.int (1 : Int32))) (fun h => by rw [Bd.returns] at h; cases h)
    exact ⟨_, _, retN X114 hx (t := .boolean) Bd.returns (by simp) (hb hby at_183) hr, hrun, hended, _, _, rfl, ⟨rfl, N114⟩, ⟨_, rfl⟩, hW, hsame.mono (by decide) (by decide)⟩
  · show own_G _ _ _ _ (s₁.setTop (mkF m 5 #[.val (.int i0), .val (.int i1), .val (.int i2), .val (.int i3), .val (.int (2 : Int32)), .unset, .unset, .unset, .unset, .unset, .unset] []))
    refine own_via (fun _ k => XS.iload X0.here hx rfl (hb hby at_5) rfl k) ?_
    show own_G _ _ _ _ (s₁.setTop (mkF m 7 #[.val (.int i0), .val (.int i1), .val (.int i2), .val (.int i3), .val (.int (2 : Int32)), .unset, .unset, .unset, .unset, .unset, .unset] [(.int (2 : Int32))]))
    refine own_via (fun _ k => XS.iconst X0.here hx rfl (hb hby at_7) k) ?_
    show own_G _ _ _ _ (s₁.setTop (mkF m 8 #[.val (.int i0), .val (.int i1), .val (.int i2), .val (.int i3), .val (.int (2 : Int32)), .unset, .unset, .unset, .unset, .unset, .unset] [(.int (1 : Int32)), (.int (2 : Int32))]))
    refine own_via (fun _ k => XS.icmpYes X0.here hx rfl (pc0 := 8) (pc' := 25) rfl (hb hby at_8) rfl (tlt (by decide)).2.2.1 (by decide) (by decide) k) ?_
    show own_G _ _ _ _ (s₁.setTop (mkF m 25 #[.val (.int i0), .val (.int i1), .val (.int i2), .val (.int i3), .val (.int (2 : Int32)), .unset, .unset, .unset, .unset, .unset, .unset] []))
    refine own_via (fun _ k => XS.iloadN X0.here hx rfl (hb hby at_25) rfl k) ?_
    show own_G _ _ _ _ (s₁.setTop (mkF m 26 #[.val (.int i0), .val (.int i1), .val (.int i2), .val (.int i3), .val (.int (2 : Int32)), .unset, .unset, .unset, .unset, .unset, .unset] [(.int i1)]))
    refine own_via (fun _ k => XS.sipush X0.here hx rfl (hb hby at_26) k) ?_
    show own_G _ _ _ _ (s₁.setTop (mkF m 29 #[.val (.int i0), .val (.int i1), .val (.int i2), .val (.int i3), .val (.int (2 : Int32)), .unset, .unset, .unset, .unset, .unset, .unset] [(.int (1023 : Int32)), (.int i1)]))
    refine own_via (fun _ k => XS.iand X0.here hx rfl (hb hby at_29) rfl k) ?_
    show own_G _ _ _ _ (s₁.setTop (mkF m 30 #[.val (.int i0), .val (.int i1), .val (.int i2), .val (.int i3), .val (.int (2 : Int32)), .unset, .unset, .unset, .unset, .unset, .unset] [(.int (i1 &&& (1023 : Int32)))]))
    refine own_via (fun _ k => XS.iconst X0.here hx rfl (hb hby at_30) k) ?_
    show own_G _ _ _ _ (s₁.setTop (mkF m 31 #[.val (.int i0), .val (.int i1), .val (.int i2), .val (.int i3), .val (.int (2 : Int32)), .unset, .unset, .unset, .unset, .unset, .unset] [(.int (1 : Int32)), (.int (i1 &&& (1023 : Int32)))]))
    refine own_via (fun _ k => XS.iadd X0.here hx rfl (hb hby at_31) rfl k) ?_
    show own_G _ _ _ _ (s₁.setTop (mkF m 32 #[.val (.int i0), .val (.int i1), .val (.int i2), .val (.int i3), .val (.int (2 : Int32)), .unset, .unset, .unset, .unset, .unset, .unset] [(.int ((i1 &&& (1023 : Int32)) + (1 : Int32)))]))
    refine own_via (fun _ k => XS.istore X0.here hx rfl (hb hby at_32) rfl (l' := #[.val (.int i0), .val (.int i1), .val (.int i2), .val (.int i3), .val (.int (2 : Int32)), .val (.int ((i1 &&& (1023 : Int32)) + (1 : Int32))), .unset, .unset, .unset, .unset, .unset]) rfl k) ?_
    show own_G _ _ _ _ (s₁.setTop (mkF m 34 #[.val (.int i0), .val (.int i1), .val (.int i2), .val (.int i3), .val (.int (2 : Int32)), .val (.int ((i1 &&& (1023 : Int32)) + (1 : Int32))), .unset, .unset, .unset, .unset, .unset] []))
    have k0 := own_c i1 (Jvm.Kit.i32_mask i1 1023 (by decide) (by decide))
    obtain ⟨c0, hc0⟩ : ∃ z, z = ((i1 &&& (1023 : Int32)) + (1 : Int32)) := ⟨_, rfl⟩
    rw [← hc0] at k0 ⊢
    show own_G _ _ _ _ (s₁.setTop (mkF m 34 #[.val (.int i0), .val (.int i1), .val (.int i2), .val (.int i3), .val (.int (2 : Int32)), .val (.int c0), .unset, .unset, .unset, .unset, .unset] []))
    refine own_via (fun _ k => XS.iloadN X0.here hx rfl (hb hby at_34) rfl k) ?_
    show own_G _ _ _ _ (s₁.setTop (mkF m 35 #[.val (.int i0), .val (.int i1), .val (.int i2), .val (.int i3), .val (.int (2 : Int32)), .val (.int c0), .unset, .unset, .unset, .unset, .unset] [(.int i2)]))
    refine own_via (fun _ k => XS.sipush X0.here hx rfl (hb hby at_35) k) ?_
    show own_G _ _ _ _ (s₁.setTop (mkF m 38 #[.val (.int i0), .val (.int i1), .val (.int i2), .val (.int i3), .val (.int (2 : Int32)), .val (.int c0), .unset, .unset, .unset, .unset, .unset] [(.int (1023 : Int32)), (.int i2)]))
    refine own_via (fun _ k => XS.iand X0.here hx rfl (hb hby at_38) rfl k) ?_
    show own_G _ _ _ _ (s₁.setTop (mkF m 39 #[.val (.int i0), .val (.int i1), .val (.int i2), .val (.int i3), .val (.int (2 : Int32)), .val (.int c0), .unset, .unset, .unset, .unset, .unset] [(.int (i2 &&& (1023 : Int32)))]))
    refine own_via (fun _ k => XS.iconst X0.here hx rfl (hb hby at_39) k) ?_
    show own_G _ _ _ _ (s₁.setTop (mkF m 40 #[.val (.int i0), .val (.int i1), .val (.int i2), .val (.int i3), .val (.int (2 : Int32)), .val (.int c0), .unset, .unset, .unset, .unset, .unset] [(.int (1 : Int32)), (.int (i2 &&& (1023 : Int32)))]))
    refine own_via (fun _ k => XS.iadd X0.here hx rfl (hb hby at_40) rfl k) ?_
    show own_G _ _ _ _ (s₁.setTop (mkF m 41 #[.val (.int i0), .val (.int i1), .val (.int i2), .val (.int i3), .val (.int (2 : Int32)), .val (.int c0), .unset, .unset, .unset, .unset, .unset] [(.int ((i2 &&& (1023 : Int32)) + (1 : Int32)))]))
    refine own_via (fun _ k => XS.istore X0.here hx rfl (hb hby at_41) rfl (l' := #[.val (.int i0), .val (.int i1), .val (.int i2), .val (.int i3), .val (.int (2 : Int32)), .val (.int c0), .val (.int ((i2 &&& (1023 : Int32)) + (1 : Int32))), .unset, .unset, .unset, .unset]) rfl k) ?_
    show own_G _ _ _ _ (s₁.setTop (mkF m 43 #[.val (.int i0), .val (.int i1), .val (.int i2), .val (.int i3), .val (.int (2 : Int32)), .val (.int c0), .val (.int ((i2 &&& (1023 : Int32)) + (1 : Int32))), .unset, .unset, .unset, .unset] []))
    have k1 := own_c i2 (Jvm.Kit.i32_mask i2 1023 (by decide) (by decide))
    obtain ⟨c1, hc1⟩ : ∃ z, z = ((i2 &&& (1023 : Int32)) + (1 : Int32)) := ⟨_, rfl⟩
    rw [← hc1] at k1 ⊢
    show own_G _ _ _ _ (s₁.setTop (mkF m 43 #[.val (.int i0), .val (.int i1), .val (.int i2), .val (.int i3), .val (.int (2 : Int32)), .val (.int c0), .val (.int c1), .unset, .unset, .unset, .unset] []))
    refine own_via (fun _ k => XS.iloadN X0.here hx rfl (hb hby at_43) rfl k) ?_
    show own_G _ _ _ _ (s₁.setTop (mkF m 44 #[.val (.int i0), .val (.int i1), .val (.int i2), .val (.int i3), .val (.int (2 : Int32)), .val (.int c0), .val (.int c1), .unset, .unset, .unset, .unset] [(.int i3)]))
    refine own_via (fun _ k => XS.sipush X0.here hx rfl (hb hby at_44) k) ?_
    show own_G _ _ _ _ (s₁.setTop (mkF m 47 #[.val (.int i0), .val (.int i1), .val (.int i2), .val (.int i3), .val (.int (2 : Int32)), .val (.int c0), .val (.int c1), .unset, .unset, .unset, .unset] [(.int (1023 : Int32)), (.int i3)]))
    refine own_via (fun _ k => XS.iand X0.here hx rfl (hb hby at_47) rfl k) ?_
    show own_G _ _ _ _ (s₁.setTop (mkF m 48 #[.val (.int i0), .val (.int i1), .val (.int i2), .val (.int i3), .val (.int (2 : Int32)), .val (.int c0), .val (.int c1), .unset, .unset, .unset, .unset] [(.int (i3 &&& (1023 : Int32)))]))
    refine own_via (fun _ k => XS.iconst X0.here hx rfl (hb hby at_48) k) ?_
    show own_G _ _ _ _ (s₁.setTop (mkF m 49 #[.val (.int i0), .val (.int i1), .val (.int i2), .val (.int i3), .val (.int (2 : Int32)), .val (.int c0), .val (.int c1), .unset, .unset, .unset, .unset] [(.int (1 : Int32)), (.int (i3 &&& (1023 : Int32)))]))
    refine own_via (fun _ k => XS.iadd X0.here hx rfl (hb hby at_49) rfl k) ?_
    show own_G _ _ _ _ (s₁.setTop (mkF m 50 #[.val (.int i0), .val (.int i1), .val (.int i2), .val (.int i3), .val (.int (2 : Int32)), .val (.int c0), .val (.int c1), .unset, .unset, .unset, .unset] [(.int ((i3 &&& (1023 : Int32)) + (1 : Int32)))]))
    refine own_via (fun _ k => XS.istore X0.here hx rfl (hb hby at_50) rfl (l' := #[.val (.int i0), .val (.int i1), .val (.int i2), .val (.int i3), .val (.int (2 : Int32)), .val (.int c0), .val (.int c1), .val (.int ((i3 &&& (1023 : Int32)) + (1 : Int32))), .unset, .unset, .unset]) rfl k) ?_
    show own_G _ _ _ _ (s₁.setTop (mkF m 52 #[.val (.int i0), .val (.int i1), .val (.int i2), .val (.int i3), .val (.int (2 : Int32)), .val (.int c0), .val (.int c1), .val (.int ((i3 &&& (1023 : Int32)) + (1 : Int32))), .unset, .unset, .unset] []))
    have k2 := own_c i3 (Jvm.Kit.i32_mask i3 1023 (by decide) (by decide))
    obtain ⟨c2, hc2⟩ : ∃ z, z = ((i3 &&& (1023 : Int32)) + (1 : Int32)) := ⟨_, rfl⟩
    rw [← hc2] at k2 ⊢
    show own_G _ _ _ _ (s₁.setTop (mkF m 52 #[.val (.int i0), .val (.int i1), .val (.int i2), .val (.int i3), .val (.int (2 : Int32)), .val (.int c0), .val (.int c1), .val (.int c2), .unset, .unset, .unset] []))
    refine own_via (fun _ k => XS.iload X0.here hx rfl (hb hby at_52) rfl k) ?_
    show own_G _ _ _ _ (s₁.setTop (mkF m 54 #[.val (.int i0), .val (.int i1), .val (.int i2), .val (.int i3), .val (.int (2 : Int32)), .val (.int c0), .val (.int c1), .val (.int c2), .unset, .unset, .unset] [(.int (2 : Int32))]))
    obtain ⟨T117, h117, k_b, X117, e117, E117, A117, EA117, st117⟩ := newPE X0 hx hZ (hw _ (List.mem_of_getElem? (i := 2) rfl)) e0 (g := (mkF m 54 #[.val (.int i0), .val (.int i1), .val (.int i2), .val (.int i3), .val (.int (2 : Int32)), .val (.int c0), .val (.int c1), .val (.int c2), .unset, .unset, .unset] [(.int (2 : Int32))])) rfl (hb hby at_54) rfl (by decide) (cap := 2) (by decide) (by decide) (by decide) (by decide) (ad := "[I") rfl
    obtain ⟨b, g117⟩ : ∃ z, z = h0.size := ⟨_, rfl⟩
    rw [← g117] at A117 EA117 st117
    have g_b : n0 ≤ b := Nat.le_trans Z0 (Nat.le_of_eq g117.symm)
    have Z0 := Nat.le_trans Z0 E117.1
    have E_b := EA117
    have V_b : Arv Z h117 b k_b .int (2 : Int32) [(.int (0 : Int32)), (.int (0 : Int32))] (.int (0 : Int32)) := (Arv.new A117 (by decide)).pad (pad_rep [] (.int (0 : Int32)) 2)
    refine own_via st117 ?_
    show own_G _ _ _ _ (T117.setTop (mkF m 56 #[.val (.int i0), .val (.int i1), .val (.int i2), .val (.int i3), .val (.int (2 : Int32)), .val (.int c0), .val (.int c1), .val (.int c2), .unset, .unset, .unset] [(.ref b)]))
    refine own_via (fun _ k => XS.astore X117.here hx rfl (hb hby at_56) rfl rfl (l' := #[.val (.int i0), .val (.int i1), .val (.int i2), .val (.int i3), .val (.int (2 : Int32)), .val (.int c0), .val (.int c1), .val (.int c2), .val (.ref b), .unset, .unset]) rfl k) ?_
    show own_G _ _ _ _ (T117.setTop (mkF m 58 #[.val (.int i0), .val (.int i1), .val (.int i2), .val (.int i3), .val (.int (2 : Int32)), .val (.int c0), .val (.int c1), .val (.int c2), .val (.ref b), .unset, .unset] []))
    refine own_via (fun _ k => XS.iload X117.here hx rfl (hb hby at_58) rfl k) ?_
    show own_G _ _ _ _ (T117.setTop (mkF m 60 #[.val (.int i0), .val (.int i1), .val (.int i2), .val (.int i3), .val (.int (2 : Int32)), .val (.int c0), .val (.int c1), .val (.int c2), .val (.ref b), .unset, .unset] [(.int (2 : Int32))]))
    refine own_via (fun _ k => XS.ifNo X117.here hx rfl (hb hby at_60) rfl ((if0 _ _).trans (tlt (by decide)).2.2.2) k) ?_
    show own_G _ _ _ _ (T117.setTop (mkF m 63 #[.val (.int i0), .val (.int i1), .val (.int i2), .val (.int i3), .val (.int (2 : Int32)), .val (.int c0), .val (.int c1), .val (.int c2), .val (.ref b), .unset, .unset] []))
    refine own_via (fun _ k => XS.aload X117.here hx rfl (hb hby at_63) rfl rfl k) ?_
    show own_G _ _ _ _ (T117.setTop (mkF m 65 #[.val (.int i0), .val (.int i1), .val (.int i2), .val (.int i3), .val (.int (2 : Int32)), .val (.int c0), .val (.int c1), .val (.int c2), .val (.ref b), .unset, .unset] [(.ref b)]))
    refine own_via (fun _ k => XS.iconst X117.here hx rfl (hb hby at_65) k) ?_
    show own_G _ _ _ _ (T117.setTop (mkF m 66 #[.val (.int i0), .val (.int i1), .val (.int i2), .val (.int i3), .val (.int (2 : Int32)), .val (.int c0), .val (.int c1), .val (.int c2), .val (.ref b), .unset, .unset] [(.int (0 : Int32)), (.ref b)]))
    refine own_via (fun _ k => XS.iload X117.here hx rfl (hb hby at_66) rfl k) ?_
    show own_G _ _ _ _ (T117.setTop (mkF m 68 #[.val (.int i0), .val (.int i1), .val (.int i2), .val (.int i3), .val (.int (2 : Int32)), .val (.int c0), .val (.int c1), .val (.int c2), .val (.ref b), .unset, .unset] [(.int c0), (.int (0 : Int32)), (.ref b)]))
    obtain ⟨cl_b, Ar_b, q_b, S_b, Nn_b, H_b, G_b⟩ := V_b
    have hin118 : ¬ ((0 : Int32) < 0 ∨ cl_b.slots.size ≤ ((0 : Int32)).toNatClampNeg) := inb_of S_b ⟨by decide, by decide⟩
    obtain ⟨T118, h118, X118, e118, W118, st118⟩ := stI X117 hx hZ e117 Ar_b (j := (0 : Int32)) hin118 (g := (mkF m 68 #[.val (.int i0), .val (.int i1), .val (.int i2), .val (.int i3), .val (.int (2 : Int32)), .val (.int c0), .val (.int c1), .val (.int c2), .val (.ref b), .unset, .unset] [(.int c0), (.int (0 : Int32)), (.ref b)])) rfl rfl (hb hby at_68)
    have V_b : Arv Z h118 b k_b .int (2 : Int32) ([(.int c0), (.int (0 : Int32))] : List Value) (.int (0 : Int32)) := Arv.set Ar_b q_b S_b Nn_b H_b G_b rfl W118 0 rfl (Nat.le_of_ble_eq_true rfl)
    have E_b := E_b.wr W118
    have Z0 := Nat.le_trans Z0 (Keep.of_wr W118).1
    have N118 := Fr.snoc X118 N0 g_b
    refine own_via st118 ?_
    show own_G _ _ _ _ (T118.setTop (mkF m 69 #[.val (.int i0), .val (.int i1), .val (.int i2), .val (.int i3), .val (.int (2 : Int32)), .val (.int c0), .val (.int c1), .val (.int c2), .val (.ref b), .unset, .unset] []))
    refine own_via (fun _ k => XS.iload X118.here hx rfl (hb hby at_69) rfl k) ?_
    show own_G _ _ _ _ (T118.setTop (mkF m 71 #[.val (.int i0), .val (.int i1), .val (.int i2), .val (.int i3), .val (.int (2 : Int32)), .val (.int c0), .val (.int c1), .val (.int c2), .val (.ref b), .unset, .unset] [(.int (2 : Int32))]))
    refine own_via (fun _ k => XS.iconst X118.here hx rfl (hb hby at_71) k) ?_
    show own_G _ _ _ _ (T118.setTop (mkF m 72 #[.val (.int i0), .val (.int i1), .val (.int i2), .val (.int i3), .val (.int (2 : Int32)), .val (.int c0), .val (.int c1), .val (.int c2), .val (.ref b), .unset, .unset] [(.int (1 : Int32)), (.int (2 : Int32))]))
    refine own_via (fun _ k => XS.icmpNo X118.here hx rfl (hb hby at_72) rfl (tlt (by decide)).2.2.2 k) ?_
    show own_G _ _ _ _ (T118.setTop (mkF m 75 #[.val (.int i0), .val (.int i1), .val (.int i2), .val (.int i3), .val (.int (2 : Int32)), .val (.int c0), .val (.int c1), .val (.int c2), .val (.ref b), .unset, .unset] []))
    refine own_via (fun _ k => XS.aload X118.here hx rfl (hb hby at_75) rfl rfl k) ?_
    show own_G _ _ _ _ (T118.setTop (mkF m 77 #[.val (.int i0), .val (.int i1), .val (.int i2), .val (.int i3), .val (.int (2 : Int32)), .val (.int c0), .val (.int c1), .val (.int c2), .val (.ref b), .unset, .unset] [(.ref b)]))
    refine own_via (fun _ k => XS.iconst X118.here hx rfl (hb hby at_77) k) ?_
    show own_G _ _ _ _ (T118.setTop (mkF m 78 #[.val (.int i0), .val (.int i1), .val (.int i2), .val (.int i3), .val (.int (2 : Int32)), .val (.int c0), .val (.int c1), .val (.int c2), .val (.ref b), .unset, .unset] [(.int (1 : Int32)), (.ref b)]))
    refine own_via (fun _ k => XS.iload X118.here hx rfl (hb hby at_78) rfl k) ?_
    show own_G _ _ _ _ (T118.setTop (mkF m 80 #[.val (.int i0), .val (.int i1), .val (.int i2), .val (.int i3), .val (.int (2 : Int32)), .val (.int c0), .val (.int c1), .val (.int c2), .val (.ref b), .unset, .unset] [(.int c1), (.int (1 : Int32)), (.ref b)]))
    obtain ⟨cl_b, Ar_b, q_b, S_b, Nn_b, H_b, G_b⟩ := V_b
    have hin119 : ¬ ((1 : Int32) < 0 ∨ cl_b.slots.size ≤ ((1 : Int32)).toNatClampNeg) := inb_of S_b ⟨by decide, by decide⟩
    obtain ⟨T119, h119, X119, e119, W119, st119⟩ := stI X118 hx hZ e118 Ar_b (j := (1 : Int32)) hin119 (g := (mkF m 80 #[.val (.int i0), .val (.int i1), .val (.int i2), .val (.int i3), .val (.int (2 : Int32)), .val (.int c0), .val (.int c1), .val (.int c2), .val (.ref b), .unset, .unset] [(.int c1), (.int (1 : Int32)), (.ref b)])) rfl rfl (hb hby at_80)
    have V_b : Arv Z h119 b k_b .int (2 : Int32) ([(.int c0), (.int c1)] : List Value) (.int (0 : Int32)) := Arv.set Ar_b q_b S_b Nn_b H_b G_b rfl W119 1 rfl (Nat.le_of_ble_eq_true rfl)
    have E_b := E_b.wr W119
    have Z0 := Nat.le_trans Z0 (Keep.of_wr W119).1
    have N119 := Fr.snoc X119 N118 g_b
    refine own_via st119 ?_
    show own_G _ _ _ _ (T119.setTop (mkF m 81 #[.val (.int i0), .val (.int i1), .val (.int i2), .val (.int i3), .val (.int (2 : Int32)), .val (.int c0), .val (.int c1), .val (.int c2), .val (.ref b), .unset, .unset] []))
    refine own_via (fun _ k => XS.iload X119.here hx rfl (hb hby at_81) rfl k) ?_
    show own_G _ _ _ _ (T119.setTop (mkF m 83 #[.val (.int i0), .val (.int i1), .val (.int i2), .val (.int i3), .val (.int (2 : Int32)), .val (.int c0), .val (.int c1), .val (.int c2), .val (.ref b), .unset, .unset] [(.int (2 : Int32))]))
    refine own_via (fun _ k => XS.iconst X119.here hx rfl (hb hby at_83) k) ?_
    show own_G _ _ _ _ (T119.setTop (mkF m 84 #[.val (.int i0), .val (.int i1), .val (.int i2), .val (.int i3), .val (.int (2 : Int32)), .val (.int c0), .val (.int c1), .val (.int c2), .val (.ref b), .unset, .unset] [(.int (2 : Int32)), (.int (2 : Int32))]))
    refine own_via (fun _ k => XS.icmpYes X119.here hx rfl (pc0 := 84) (pc' := 93) rfl (hb hby at_84) rfl (flt (by decide)).2.2.2 (by decide) (by decide) k) ?_
    show own_G _ _ _ _ (T119.setTop (mkF m 93 #[.val (.int i0), .val (.int i1), .val (.int i2), .val (.int i3), .val (.int (2 : Int32)), .val (.int c0), .val (.int c1), .val (.int c2), .val (.ref b), .unset, .unset] []))
    obtain ⟨T120, h120, X120, e120, E120, A120, D120, -, st120⟩ := newO X119 hx hZ hown (hw _ (List.mem_of_getElem? (i := 3) rfl)) (hw _ (List.mem_of_getElem? (i := 4) rfl)) (hw _ (List.mem_of_getElem? (i := 5) rfl)) e119 (g := (mkF m 93 #[.val (.int i0), .val (.int i1), .val (.int i2), .val (.int i3), .val (.int (2 : Int32)), .val (.int c0), .val (.int c1), .val (.int c2), .val (.ref b), .unset, .unset] [])) rfl (hb hby at_93) (by decide) (by decide)
    obtain ⟨la, g120⟩ : ∃ z, z = h119.size := ⟨_, rfl⟩
    rw [← g120] at A120 D120 st120
    have g_la : n0 ≤ la := Nat.le_trans Z0 (Nat.le_of_eq g120.symm)
    have ne_b_la : b ≠ la := Nat.ne_of_lt (Nat.lt_of_lt_of_le E_b.lt (Nat.le_of_eq g120.symm))
    have E_b := E_b.ext E120
    have V_b := V_b.ext E120
    have Z0 := Nat.le_trans Z0 E120.1
    have E_la := A120
    have F_la_levelCounts : Fld Z h120 la "com/example/vanon/vanon/lattice/Lattice" "levelCounts" "[I" .null := D120 (Or.inr (hw _ (List.mem_of_getElem? (i := 22) rfl))) (ty := (.array .int)) (by decide)
    have F_la_strides : Fld Z h120 la "com/example/vanon/vanon/lattice/Lattice" "strides" "[I" .null := D120 (Or.inr (hw _ (List.mem_of_getElem? (i := 24) rfl))) (ty := (.array .int)) (by decide)
    have F_la_size : Fld Z h120 la "com/example/vanon/vanon/lattice/Lattice" "size" "I" (.int (0 : Int32)) := D120 (Or.inr (hw _ (List.mem_of_getElem? (i := 26) rfl))) (ty := .int) (by decide)
    refine own_via st120 ?_
    show own_G _ _ _ _ (T120.setTop (mkF m 96 #[.val (.int i0), .val (.int i1), .val (.int i2), .val (.int i3), .val (.int (2 : Int32)), .val (.int c0), .val (.int c1), .val (.int c2), .val (.ref b), .unset, .unset] [(.ref la)]))
    refine own_via (fun _ k => XS.dup X120.here hx rfl (hb hby at_96) rfl rfl k) ?_
    show own_G _ _ _ _ (T120.setTop (mkF m 97 #[.val (.int i0), .val (.int i1), .val (.int i2), .val (.int i3), .val (.int (2 : Int32)), .val (.int c0), .val (.int c1), .val (.int c2), .val (.ref b), .unset, .unset] [(.ref la), (.ref la)]))
    refine own_via (fun _ k => XS.aload X120.here hx rfl (hb hby at_97) rfl rfl k) ?_
    show own_G _ _ _ _ (T120.setTop (mkF m 99 #[.val (.int i0), .val (.int i1), .val (.int i2), .val (.int i3), .val (.int (2 : Int32)), .val (.int c0), .val (.int c1), .val (.int c2), .val (.ref b), .unset, .unset] [(.ref b), (.ref la), (.ref la)]))
    have u0 : 0 ≤ (1 : Int64).toInt ∧ (1 : Int64).toInt ≤ 1 := by decide
    have u1 := own_pr (p := (1 : Int64)) (c := c0) (B := 1) u0.1 u0.2 k0.1 k0.2 (by decide)
    have u2 := own_pr (p := ((1 : Int64) * (c0.toInt64))) (c := c1) (B := 1024) u1.1 u1.2 k1.1 k1.2 (by decide)
    obtain ⟨_, _, ⟨T121, L121, k121, n121⟩, -, X121, ⟨Lc121, hQ121, l121, y121, z121⟩, st121⟩ := X120.specialBack hx (y := (⟨"com/example/vanon/vanon/lattice/Lattice", "<init>", "([I)V"⟩ : MethodName)) rfl hown (mvT hZ (hw _ (List.mem_of_getElem? (i := 6) rfl))) (mvT hZ (hw _ (List.mem_of_getElem? (i := 7) rfl))) (mvT hZ (hw _ (List.mem_of_getElem? (i := 8) rfl))) (by decide) (backOf (W := 1) (rmc2 l Z a0 hw [] la b k_b c0 c1 h120 n0 Z0 E_la F_la_levelCounts F_la_strides F_la_size E_b V_b g_la (Ne.symm ne_b_la) k0.1 (own_big u1.2 (by decide)) k1.1 (own_big u2.2 (by decide))) hZ (hw _ (List.mem_of_getElem? (i := 8) rfl)) (hw _ (List.mem_of_getElem? (i := 5) rfl)) (by decide) (by decide)) (g := (mkF m 99 #[.val (.int i0), .val (.int i1), .val (.int i2), .val (.int i3), .val (.int (2 : Int32)), .val (.int c0), .val (.int c1), .val (.int c2), .val (.ref b), .unset, .unset] [(.ref b), (.ref la), (.ref la)])) rfl (by rw [hml]; rfl) (Steps.refl _) (a := la) (argsL := [(.ref b)]) (rest := [(.ref la)]) (lenOf pd_0 rfl) rfl (by show 2 * 0 + _ ≤ _; exact Nat.le_of_eq rfl) (hb hby at_99) (fun _ _ => ⟨rfl, e120, Nat.le_of_ble_eq_true rfl, Nat.le_of_ble_eq_true rfl⟩)
    dsimp only [Pt.U, Pt.locs, Pt.cells, Pt.slots] at X121 l121 y121 z121 st121 hQ121
    subst l121 y121 z121
    obtain ⟨rfl, N121q, K121, -, b2, b3, k3, g_b2, g_b3, F_la_levelCounts, V_b2, F_la_strides, V_b3, F_la_size⟩ := hQ121
    have N121 := Fr.app N119 N121q
    have E_b := E_b.keep K121
    have V_b := V_b.keep K121 (by simp [ne_b_la])
    have E_la := E_la.keep K121
    have Z0 := Nat.le_trans Z0 K121.1
    refine own_via (fun _ kt => st121.trans kt) ?_
    show own_G _ _ _ _ (T121.setTop (mkF m 102 #[.val (.int i0), .val (.int i1), .val (.int i2), .val (.int i3), .val (.int (2 : Int32)), .val (.int c0), .val (.int c1), .val (.int c2), .val (.ref b), .unset, .unset] [(.ref la)]))
    refine own_via (fun _ k => XS.astore X121.here hx rfl (hb hby at_102) rfl rfl (l' := #[.val (.int i0), .val (.int i1), .val (.int i2), .val (.int i3), .val (.int (2 : Int32)), .val (.int c0), .val (.int c1), .val (.int c2), .val (.ref b), .val (.ref la), .unset]) rfl k) ?_
    show own_G _ _ _ _ (T121.setTop (mkF m 104 #[.val (.int i0), .val (.int i1), .val (.int i2), .val (.int i3), .val (.int (2 : Int32)), .val (.int c0), .val (.int c1), .val (.int c2), .val (.ref b), .val (.ref la), .unset] []))
    refine own_via (fun _ k => XS.aload X121.here hx rfl (hb hby at_104) rfl rfl k) ?_
    show own_G _ _ _ _ (T121.setTop (mkF m 106 #[.val (.int i0), .val (.int i1), .val (.int i2), .val (.int i3), .val (.int (2 : Int32)), .val (.int c0), .val (.int c1), .val (.int c2), .val (.ref b), .val (.ref la), .unset] [(.ref la)]))
    obtain ⟨cq122, kq122, q122a, q122b, q122c⟩ := isOf hZ rfl E_la
    obtain ⟨_, _, ⟨T122, L122, k122, n122⟩, -, X122, ⟨Lc122, hQ122, l122, y122, z122⟩, st122⟩ := X121.virtualBack hx (y := (⟨"com/example/vanon/vanon/lattice/Lattice", "top", "()[I"⟩ : MethodName)) (z := (⟨"com/example/vanon/vanon/lattice/Lattice", "top", "()[I"⟩ : MethodName)) hown (mvT hZ (hw _ (List.mem_of_getElem? (i := 27) rfl))) (mvT hZ (hw _ (List.mem_of_getElem? (i := 28) rfl))) (notFace_of_selects (args := #[]) (mvT hZ (hw _ (List.mem_of_getElem? (i := 30) rfl)))) (mvT hZ (hw _ (List.mem_of_getElem? (i := 30) rfl))) (mvT hZ (hw _ (List.mem_of_getElem? (i := 29) rfl))) (by decide) (backOf (W := 0) (rmt2 l Z a0 hw [] la b2 k_b c0 c1 T121.heap n0 Z0 F_la_levelCounts V_b2) hZ (hw _ (List.mem_of_getElem? (i := 31) rfl)) (hw _ (List.mem_of_getElem? (i := 5) rfl)) (by decide) (by decide)) q122a q122c (g := (mkF m 106 #[.val (.int i0), .val (.int i1), .val (.int i2), .val (.int i3), .val (.int (2 : Int32)), .val (.int c0), .val (.int c1), .val (.int c2), .val (.ref b), .val (.ref la), .unset] [(.ref la)])) rfl (by rw [hml]; rfl) (Steps.refl _) (argsL := []) (rest := []) (lenOf pd_1 rfl) rfl (by show 2 * 0 + _ ≤ _; exact Nat.le_of_eq rfl) (hb hby at_106) (fun _ _ => ⟨rfl, rfl, Nat.le_of_ble_eq_true rfl, Nat.le_of_ble_eq_true rfl⟩)
    dsimp only [Pt.U, Pt.locs, Pt.cells, Pt.slots] at X122 l122 y122 z122 st122 hQ122
    subst l122 y122 z122
    obtain ⟨tt, kt, rfl, N122q, K122, V_tt⟩ := hQ122
    have N122 := Fr.app N121 N122q
    have E_b := E_b.keep K122
    have V_b := V_b.keep K122 (by simp)
    have E_la := E_la.keep K122
    have Z0 := Nat.le_trans Z0 K122.1
    refine own_via (fun _ kt => st122.trans kt) ?_
    show own_G _ _ _ _ (T122.setTop (mkF m 109 #[.val (.int i0), .val (.int i1), .val (.int i2), .val (.int i3), .val (.int (2 : Int32)), .val (.int c0), .val (.int c1), .val (.int c2), .val (.ref b), .val (.ref la), .unset] [(.ref tt)]))
    refine own_via (fun _ k => XS.astore X122.here hx rfl (hb hby at_109) rfl rfl (l' := #[.val (.int i0), .val (.int i1), .val (.int i2), .val (.int i3), .val (.int (2 : Int32)), .val (.int c0), .val (.int c1), .val (.int c2), .val (.ref b), .val (.ref la), .val (.ref tt)]) rfl k) ?_
    show own_G _ _ _ _ (T122.setTop (mkF m 111 #[.val (.int i0), .val (.int i1), .val (.int i2), .val (.int i3), .val (.int (2 : Int32)), .val (.int c0), .val (.int c1), .val (.int c2), .val (.ref b), .val (.ref la), .val (.ref tt)] []))
    refine own_via (fun _ k => XS.aload X122.here hx rfl (hb hby at_111) rfl rfl k) ?_
    show own_G _ _ _ _ (T122.setTop (mkF m 113 #[.val (.int i0), .val (.int i1), .val (.int i2), .val (.int i3), .val (.int (2 : Int32)), .val (.int c0), .val (.int c1), .val (.int c2), .val (.ref b), .val (.ref la), .val (.ref tt)] [(.ref tt)]))
    refine own_via (fun _ k => XS.ifnullNo X122.here hx rfl (hb hby at_113) rfl k) ?_
    show own_G _ _ _ _ (T122.setTop (mkF m 116 #[.val (.int i0), .val (.int i1), .val (.int i2), .val (.int i3), .val (.int (2 : Int32)), .val (.int c0), .val (.int c1), .val (.int c2), .val (.ref b), .val (.ref la), .val (.ref tt)] []))
    refine own_via (fun _ k => XS.aload X122.here hx rfl (hb hby at_116) rfl rfl k) ?_
    show own_G _ _ _ _ (T122.setTop (mkF m 118 #[.val (.int i0), .val (.int i1), .val (.int i2), .val (.int i3), .val (.int (2 : Int32)), .val (.int c0), .val (.int c1), .val (.int c2), .val (.ref b), .val (.ref la), .val (.ref tt)] [(.ref tt)]))
    obtain ⟨cl123, Ar123, -, Sz123, Nn123, -, -⟩ := id V_tt
    refine own_via (fun _ k => X122.arraylength hx Ar123.1 (State.isArrayOf_alike hZ.alike Ar123.2.1) (g := (mkF m 118 #[.val (.int i0), .val (.int i1), .val (.int i2), .val (.int i3), .val (.int (2 : Int32)), .val (.int c0), .val (.int c1), .val (.int c2), .val (.ref b), .val (.ref la), .val (.ref tt)] [(.ref tt)])) rfl rfl (hb hby at_118) _ k) ?_
    rw [len_of Sz123 Nn123]
    show own_G _ _ _ _ (T122.setTop (mkF m 119 #[.val (.int i0), .val (.int i1), .val (.int i2), .val (.int i3), .val (.int (2 : Int32)), .val (.int c0), .val (.int c1), .val (.int c2), .val (.ref b), .val (.ref la), .val (.ref tt)] [(.int (2 : Int32))]))
    refine own_via (fun _ k => XS.iload X122.here hx rfl (hb hby at_119) rfl k) ?_
    show own_G _ _ _ _ (T122.setTop (mkF m 121 #[.val (.int i0), .val (.int i1), .val (.int i2), .val (.int i3), .val (.int (2 : Int32)), .val (.int c0), .val (.int c1), .val (.int c2), .val (.ref b), .val (.ref la), .val (.ref tt)] [(.int (2 : Int32)), (.int (2 : Int32))]))
    refine own_via (fun _ k => XS.icmpYes X122.here hx rfl (pc0 := 121) (pc' := 126) rfl (hb hby at_121) rfl (teq (by decide)).1 (by decide) (by decide) k) ?_
    show own_G _ _ _ _ (T122.setTop (mkF m 126 #[.val (.int i0), .val (.int i1), .val (.int i2), .val (.int i3), .val (.int (2 : Int32)), .val (.int c0), .val (.int c1), .val (.int c2), .val (.ref b), .val (.ref la), .val (.ref tt)] []))
    refine own_via (fun _ k => XS.iload X122.here hx rfl (hb hby at_126) rfl k) ?_
    show own_G _ _ _ _ (T122.setTop (mkF m 128 #[.val (.int i0), .val (.int i1), .val (.int i2), .val (.int i3), .val (.int (2 : Int32)), .val (.int c0), .val (.int c1), .val (.int c2), .val (.ref b), .val (.ref la), .val (.ref tt)] [(.int (2 : Int32))]))
    refine own_via (fun _ k => XS.ifNo X122.here hx rfl (hb hby at_128) rfl ((if0 _ _).trans (tlt (by decide)).2.2.2) k) ?_
    show own_G _ _ _ _ (T122.setTop (mkF m 131 #[.val (.int i0), .val (.int i1), .val (.int i2), .val (.int i3), .val (.int (2 : Int32)), .val (.int c0), .val (.int c1), .val (.int c2), .val (.ref b), .val (.ref la), .val (.ref tt)] []))
    refine own_via (fun _ k => XS.aload X122.here hx rfl (hb hby at_131) rfl rfl k) ?_
    show own_G _ _ _ _ (T122.setTop (mkF m 133 #[.val (.int i0), .val (.int i1), .val (.int i2), .val (.int i3), .val (.int (2 : Int32)), .val (.int c0), .val (.int c1), .val (.int c2), .val (.ref b), .val (.ref la), .val (.ref tt)] [(.ref tt)]))
    refine own_via (fun _ k => XS.iconst X122.here hx rfl (hb hby at_133) k) ?_
    show own_G _ _ _ _ (T122.setTop (mkF m 134 #[.val (.int i0), .val (.int i1), .val (.int i2), .val (.int i3), .val (.int (2 : Int32)), .val (.int c0), .val (.int c1), .val (.int c2), .val (.ref b), .val (.ref la), .val (.ref tt)] [(.int (0 : Int32)), (.ref tt)]))
    obtain ⟨cl124, Ar124, -, Sz124, Nn124, Hh124, -⟩ := id V_tt
    have hin124 : ¬ ((0 : Int32) < 0 ∨ cl124.slots.size ≤ ((0 : Int32)).toNatClampNeg) := inb_of Sz124 ⟨by decide, by decide⟩
    have hat124 : cl124.slots[((0 : Int32)).toNatClampNeg]? = some (.int (c0 - (1 : Int32))) := Has.at Hh124 hin124 rfl
    refine own_via (fun _ k => X122.iaload hx (j := (0 : Int32)) (v := (.int (c0 - (1 : Int32)))) Ar124.1 (State.isArrayOf_alike hZ.alike Ar124.2.1) Ar124.2.2 hin124 hat124 (g := (mkF m 134 #[.val (.int i0), .val (.int i1), .val (.int i2), .val (.int i3), .val (.int (2 : Int32)), .val (.int c0), .val (.int c1), .val (.int c2), .val (.ref b), .val (.ref la), .val (.ref tt)] [(.int (0 : Int32)), (.ref tt)])) rfl rfl (hb hby at_134) _ k) ?_
    show own_G _ _ _ _ (T122.setTop (mkF m 135 #[.val (.int i0), .val (.int i1), .val (.int i2), .val (.int i3), .val (.int (2 : Int32)), .val (.int c0), .val (.int c1), .val (.int c2), .val (.ref b), .val (.ref la), .val (.ref tt)] [(.int (c0 - (1 : Int32)))]))
    refine own_via (fun _ k => XS.iload X122.here hx rfl (hb hby at_135) rfl k) ?_
    show own_G _ _ _ _ (T122.setTop (mkF m 137 #[.val (.int i0), .val (.int i1), .val (.int i2), .val (.int i3), .val (.int (2 : Int32)), .val (.int c0), .val (.int c1), .val (.int c2), .val (.ref b), .val (.ref la), .val (.ref tt)] [(.int c0), (.int (c0 - (1 : Int32)))]))
    refine own_via (fun _ k => XS.iconst X122.here hx rfl (hb hby at_137) k) ?_
    show own_G _ _ _ _ (T122.setTop (mkF m 138 #[.val (.int i0), .val (.int i1), .val (.int i2), .val (.int i3), .val (.int (2 : Int32)), .val (.int c0), .val (.int c1), .val (.int c2), .val (.ref b), .val (.ref la), .val (.ref tt)] [(.int (1 : Int32)), (.int c0), (.int (c0 - (1 : Int32)))]))
    refine own_via (fun _ k => XS.isub X122.here hx rfl (hb hby at_138) rfl k) ?_
    show own_G _ _ _ _ (T122.setTop (mkF m 139 #[.val (.int i0), .val (.int i1), .val (.int i2), .val (.int i3), .val (.int (2 : Int32)), .val (.int c0), .val (.int c1), .val (.int c2), .val (.ref b), .val (.ref la), .val (.ref tt)] [(.int (c0 - (1 : Int32))), (.int (c0 - (1 : Int32)))]))
    refine own_via (fun _ k => XS.icmpYes X122.here hx rfl (pc0 := 139) (pc' := 144) rfl (hb hby at_139) rfl (teq rfl).1 (by decide) (by decide) k) ?_
    show own_G _ _ _ _ (T122.setTop (mkF m 144 #[.val (.int i0), .val (.int i1), .val (.int i2), .val (.int i3), .val (.int (2 : Int32)), .val (.int c0), .val (.int c1), .val (.int c2), .val (.ref b), .val (.ref la), .val (.ref tt)] []))
    refine own_via (fun _ k => XS.iload X122.here hx rfl (hb hby at_144) rfl k) ?_
    show own_G _ _ _ _ (T122.setTop (mkF m 146 #[.val (.int i0), .val (.int i1), .val (.int i2), .val (.int i3), .val (.int (2 : Int32)), .val (.int c0), .val (.int c1), .val (.int c2), .val (.ref b), .val (.ref la), .val (.ref tt)] [(.int (2 : Int32))]))
    refine own_via (fun _ k => XS.iconst X122.here hx rfl (hb hby at_146) k) ?_
    show own_G _ _ _ _ (T122.setTop (mkF m 147 #[.val (.int i0), .val (.int i1), .val (.int i2), .val (.int i3), .val (.int (2 : Int32)), .val (.int c0), .val (.int c1), .val (.int c2), .val (.ref b), .val (.ref la), .val (.ref tt)] [(.int (1 : Int32)), (.int (2 : Int32))]))
    refine own_via (fun _ k => XS.icmpNo X122.here hx rfl (hb hby at_147) rfl (tlt (by decide)).2.2.2 k) ?_
    show own_G _ _ _ _ (T122.setTop (mkF m 150 #[.val (.int i0), .val (.int i1), .val (.int i2), .val (.int i3), .val (.int (2 : Int32)), .val (.int c0), .val (.int c1), .val (.int c2), .val (.ref b), .val (.ref la), .val (.ref tt)] []))
    refine own_via (fun _ k => XS.aload X122.here hx rfl (hb hby at_150) rfl rfl k) ?_
    show own_G _ _ _ _ (T122.setTop (mkF m 152 #[.val (.int i0), .val (.int i1), .val (.int i2), .val (.int i3), .val (.int (2 : Int32)), .val (.int c0), .val (.int c1), .val (.int c2), .val (.ref b), .val (.ref la), .val (.ref tt)] [(.ref tt)]))
    refine own_via (fun _ k => XS.iconst X122.here hx rfl (hb hby at_152) k) ?_
    show own_G _ _ _ _ (T122.setTop (mkF m 153 #[.val (.int i0), .val (.int i1), .val (.int i2), .val (.int i3), .val (.int (2 : Int32)), .val (.int c0), .val (.int c1), .val (.int c2), .val (.ref b), .val (.ref la), .val (.ref tt)] [(.int (1 : Int32)), (.ref tt)]))
    obtain ⟨cl125, Ar125, -, Sz125, Nn125, Hh125, -⟩ := id V_tt
    have hin125 : ¬ ((1 : Int32) < 0 ∨ cl125.slots.size ≤ ((1 : Int32)).toNatClampNeg) := inb_of Sz125 ⟨by decide, by decide⟩
    have hat125 : cl125.slots[((1 : Int32)).toNatClampNeg]? = some (.int (c1 - (1 : Int32))) := Has.at Hh125 hin125 rfl
    refine own_via (fun _ k => X122.iaload hx (j := (1 : Int32)) (v := (.int (c1 - (1 : Int32)))) Ar125.1 (State.isArrayOf_alike hZ.alike Ar125.2.1) Ar125.2.2 hin125 hat125 (g := (mkF m 153 #[.val (.int i0), .val (.int i1), .val (.int i2), .val (.int i3), .val (.int (2 : Int32)), .val (.int c0), .val (.int c1), .val (.int c2), .val (.ref b), .val (.ref la), .val (.ref tt)] [(.int (1 : Int32)), (.ref tt)])) rfl rfl (hb hby at_153) _ k) ?_
    show own_G _ _ _ _ (T122.setTop (mkF m 154 #[.val (.int i0), .val (.int i1), .val (.int i2), .val (.int i3), .val (.int (2 : Int32)), .val (.int c0), .val (.int c1), .val (.int c2), .val (.ref b), .val (.ref la), .val (.ref tt)] [(.int (c1 - (1 : Int32)))]))
    refine own_via (fun _ k => XS.iload X122.here hx rfl (hb hby at_154) rfl k) ?_
    show own_G _ _ _ _ (T122.setTop (mkF m 156 #[.val (.int i0), .val (.int i1), .val (.int i2), .val (.int i3), .val (.int (2 : Int32)), .val (.int c0), .val (.int c1), .val (.int c2), .val (.ref b), .val (.ref la), .val (.ref tt)] [(.int c1), (.int (c1 - (1 : Int32)))]))
    refine own_via (fun _ k => XS.iconst X122.here hx rfl (hb hby at_156) k) ?_
    show own_G _ _ _ _ (T122.setTop (mkF m 157 #[.val (.int i0), .val (.int i1), .val (.int i2), .val (.int i3), .val (.int (2 : Int32)), .val (.int c0), .val (.int c1), .val (.int c2), .val (.ref b), .val (.ref la), .val (.ref tt)] [(.int (1 : Int32)), (.int c1), (.int (c1 - (1 : Int32)))]))
    refine own_via (fun _ k => XS.isub X122.here hx rfl (hb hby at_157) rfl k) ?_
    show own_G _ _ _ _ (T122.setTop (mkF m 158 #[.val (.int i0), .val (.int i1), .val (.int i2), .val (.int i3), .val (.int (2 : Int32)), .val (.int c0), .val (.int c1), .val (.int c2), .val (.ref b), .val (.ref la), .val (.ref tt)] [(.int (c1 - (1 : Int32))), (.int (c1 - (1 : Int32)))]))
    refine own_via (fun _ k => XS.icmpYes X122.here hx rfl (pc0 := 158) (pc' := 163) rfl (hb hby at_158) rfl (teq rfl).1 (by decide) (by decide) k) ?_
    show own_G _ _ _ _ (T122.setTop (mkF m 163 #[.val (.int i0), .val (.int i1), .val (.int i2), .val (.int i3), .val (.int (2 : Int32)), .val (.int c0), .val (.int c1), .val (.int c2), .val (.ref b), .val (.ref la), .val (.ref tt)] []))
    refine own_via (fun _ k => XS.iload X122.here hx rfl (hb hby at_163) rfl k) ?_
    show own_G _ _ _ _ (T122.setTop (mkF m 165 #[.val (.int i0), .val (.int i1), .val (.int i2), .val (.int i3), .val (.int (2 : Int32)), .val (.int c0), .val (.int c1), .val (.int c2), .val (.ref b), .val (.ref la), .val (.ref tt)] [(.int (2 : Int32))]))
    refine own_via (fun _ k => XS.iconst X122.here hx rfl (hb hby at_165) k) ?_
    show own_G _ _ _ _ (T122.setTop (mkF m 166 #[.val (.int i0), .val (.int i1), .val (.int i2), .val (.int i3), .val (.int (2 : Int32)), .val (.int c0), .val (.int c1), .val (.int c2), .val (.ref b), .val (.ref la), .val (.ref tt)] [(.int (2 : Int32)), (.int (2 : Int32))]))
    refine own_via (fun _ k => XS.icmpYes X122.here hx rfl (pc0 := 166) (pc' := 182) rfl (hb hby at_166) rfl (flt (by decide)).2.2.2 (by decide) (by decide) k) ?_
    show own_G _ _ _ _ (T122.setTop (mkF m 182 #[.val (.int i0), .val (.int i1), .val (.int i2), .val (.int i3), .val (.int (2 : Int32)), .val (.int c0), .val (.int c1), .val (.int c2), .val (.ref b), .val (.ref la), .val (.ref tt)] []))
    refine own_via (fun _ k => XS.iconst X122.here hx rfl (hb hby at_182) k) ?_
    show own_G _ _ _ _ (T122.setTop (mkF m 183 #[.val (.int i0), .val (.int i1), .val (.int i2), .val (.int i3), .val (.int (2 : Int32)), .val (.int c0), .val (.int c1), .val (.int c2), .val (.ref b), .val (.ref la), .val (.ref tt)] [(.int (1 : Int32))]))
    obtain ⟨fs, hr, hrun, hended, hW, hsame⟩ := X122.leave (v := some (.int (1 : Int32))) (fun h => by rw [Bd.returns] at h; cases h)
    exact ⟨_, _, retN X122 hx (t := .boolean) Bd.returns (by simp) (hb hby at_183) hr, hrun, hended, _, _, rfl, ⟨rfl, N122⟩, ⟨_, rfl⟩, hW, hsame.mono (by decide) (by decide)⟩
  · show own_G _ _ _ _ (s₁.setTop (mkF m 5 #[.val (.int i0), .val (.int i1), .val (.int i2), .val (.int i3), .val (.int (3 : Int32)), .unset, .unset, .unset, .unset, .unset, .unset] []))
    refine own_via (fun _ k => XS.iload X0.here hx rfl (hb hby at_5) rfl k) ?_
    show own_G _ _ _ _ (s₁.setTop (mkF m 7 #[.val (.int i0), .val (.int i1), .val (.int i2), .val (.int i3), .val (.int (3 : Int32)), .unset, .unset, .unset, .unset, .unset, .unset] [(.int (3 : Int32))]))
    refine own_via (fun _ k => XS.iconst X0.here hx rfl (hb hby at_7) k) ?_
    show own_G _ _ _ _ (s₁.setTop (mkF m 8 #[.val (.int i0), .val (.int i1), .val (.int i2), .val (.int i3), .val (.int (3 : Int32)), .unset, .unset, .unset, .unset, .unset, .unset] [(.int (1 : Int32)), (.int (3 : Int32))]))
    refine own_via (fun _ k => XS.icmpYes X0.here hx rfl (pc0 := 8) (pc' := 25) rfl (hb hby at_8) rfl (tlt (by decide)).2.2.1 (by decide) (by decide) k) ?_
    show own_G _ _ _ _ (s₁.setTop (mkF m 25 #[.val (.int i0), .val (.int i1), .val (.int i2), .val (.int i3), .val (.int (3 : Int32)), .unset, .unset, .unset, .unset, .unset, .unset] []))
    refine own_via (fun _ k => XS.iloadN X0.here hx rfl (hb hby at_25) rfl k) ?_
    show own_G _ _ _ _ (s₁.setTop (mkF m 26 #[.val (.int i0), .val (.int i1), .val (.int i2), .val (.int i3), .val (.int (3 : Int32)), .unset, .unset, .unset, .unset, .unset, .unset] [(.int i1)]))
    refine own_via (fun _ k => XS.sipush X0.here hx rfl (hb hby at_26) k) ?_
    show own_G _ _ _ _ (s₁.setTop (mkF m 29 #[.val (.int i0), .val (.int i1), .val (.int i2), .val (.int i3), .val (.int (3 : Int32)), .unset, .unset, .unset, .unset, .unset, .unset] [(.int (1023 : Int32)), (.int i1)]))
    refine own_via (fun _ k => XS.iand X0.here hx rfl (hb hby at_29) rfl k) ?_
    show own_G _ _ _ _ (s₁.setTop (mkF m 30 #[.val (.int i0), .val (.int i1), .val (.int i2), .val (.int i3), .val (.int (3 : Int32)), .unset, .unset, .unset, .unset, .unset, .unset] [(.int (i1 &&& (1023 : Int32)))]))
    refine own_via (fun _ k => XS.iconst X0.here hx rfl (hb hby at_30) k) ?_
    show own_G _ _ _ _ (s₁.setTop (mkF m 31 #[.val (.int i0), .val (.int i1), .val (.int i2), .val (.int i3), .val (.int (3 : Int32)), .unset, .unset, .unset, .unset, .unset, .unset] [(.int (1 : Int32)), (.int (i1 &&& (1023 : Int32)))]))
    refine own_via (fun _ k => XS.iadd X0.here hx rfl (hb hby at_31) rfl k) ?_
    show own_G _ _ _ _ (s₁.setTop (mkF m 32 #[.val (.int i0), .val (.int i1), .val (.int i2), .val (.int i3), .val (.int (3 : Int32)), .unset, .unset, .unset, .unset, .unset, .unset] [(.int ((i1 &&& (1023 : Int32)) + (1 : Int32)))]))
    refine own_via (fun _ k => XS.istore X0.here hx rfl (hb hby at_32) rfl (l' := #[.val (.int i0), .val (.int i1), .val (.int i2), .val (.int i3), .val (.int (3 : Int32)), .val (.int ((i1 &&& (1023 : Int32)) + (1 : Int32))), .unset, .unset, .unset, .unset, .unset]) rfl k) ?_
    show own_G _ _ _ _ (s₁.setTop (mkF m 34 #[.val (.int i0), .val (.int i1), .val (.int i2), .val (.int i3), .val (.int (3 : Int32)), .val (.int ((i1 &&& (1023 : Int32)) + (1 : Int32))), .unset, .unset, .unset, .unset, .unset] []))
    have k0 := own_c i1 (Jvm.Kit.i32_mask i1 1023 (by decide) (by decide))
    obtain ⟨c0, hc0⟩ : ∃ z, z = ((i1 &&& (1023 : Int32)) + (1 : Int32)) := ⟨_, rfl⟩
    rw [← hc0] at k0 ⊢
    show own_G _ _ _ _ (s₁.setTop (mkF m 34 #[.val (.int i0), .val (.int i1), .val (.int i2), .val (.int i3), .val (.int (3 : Int32)), .val (.int c0), .unset, .unset, .unset, .unset, .unset] []))
    refine own_via (fun _ k => XS.iloadN X0.here hx rfl (hb hby at_34) rfl k) ?_
    show own_G _ _ _ _ (s₁.setTop (mkF m 35 #[.val (.int i0), .val (.int i1), .val (.int i2), .val (.int i3), .val (.int (3 : Int32)), .val (.int c0), .unset, .unset, .unset, .unset, .unset] [(.int i2)]))
    refine own_via (fun _ k => XS.sipush X0.here hx rfl (hb hby at_35) k) ?_
    show own_G _ _ _ _ (s₁.setTop (mkF m 38 #[.val (.int i0), .val (.int i1), .val (.int i2), .val (.int i3), .val (.int (3 : Int32)), .val (.int c0), .unset, .unset, .unset, .unset, .unset] [(.int (1023 : Int32)), (.int i2)]))
    refine own_via (fun _ k => XS.iand X0.here hx rfl (hb hby at_38) rfl k) ?_
    show own_G _ _ _ _ (s₁.setTop (mkF m 39 #[.val (.int i0), .val (.int i1), .val (.int i2), .val (.int i3), .val (.int (3 : Int32)), .val (.int c0), .unset, .unset, .unset, .unset, .unset] [(.int (i2 &&& (1023 : Int32)))]))
    refine own_via (fun _ k => XS.iconst X0.here hx rfl (hb hby at_39) k) ?_
    show own_G _ _ _ _ (s₁.setTop (mkF m 40 #[.val (.int i0), .val (.int i1), .val (.int i2), .val (.int i3), .val (.int (3 : Int32)), .val (.int c0), .unset, .unset, .unset, .unset, .unset] [(.int (1 : Int32)), (.int (i2 &&& (1023 : Int32)))]))
    refine own_via (fun _ k => XS.iadd X0.here hx rfl (hb hby at_40) rfl k) ?_
    show own_G _ _ _ _ (s₁.setTop (mkF m 41 #[.val (.int i0), .val (.int i1), .val (.int i2), .val (.int i3), .val (.int (3 : Int32)), .val (.int c0), .unset, .unset, .unset, .unset, .unset] [(.int ((i2 &&& (1023 : Int32)) + (1 : Int32)))]))
    refine own_via (fun _ k => XS.istore X0.here hx rfl (hb hby at_41) rfl (l' := #[.val (.int i0), .val (.int i1), .val (.int i2), .val (.int i3), .val (.int (3 : Int32)), .val (.int c0), .val (.int ((i2 &&& (1023 : Int32)) + (1 : Int32))), .unset, .unset, .unset, .unset]) rfl k) ?_
    show own_G _ _ _ _ (s₁.setTop (mkF m 43 #[.val (.int i0), .val (.int i1), .val (.int i2), .val (.int i3), .val (.int (3 : Int32)), .val (.int c0), .val (.int ((i2 &&& (1023 : Int32)) + (1 : Int32))), .unset, .unset, .unset, .unset] []))
    have k1 := own_c i2 (Jvm.Kit.i32_mask i2 1023 (by decide) (by decide))
    obtain ⟨c1, hc1⟩ : ∃ z, z = ((i2 &&& (1023 : Int32)) + (1 : Int32)) := ⟨_, rfl⟩
    rw [← hc1] at k1 ⊢
    show own_G _ _ _ _ (s₁.setTop (mkF m 43 #[.val (.int i0), .val (.int i1), .val (.int i2), .val (.int i3), .val (.int (3 : Int32)), .val (.int c0), .val (.int c1), .unset, .unset, .unset, .unset] []))
    refine own_via (fun _ k => XS.iloadN X0.here hx rfl (hb hby at_43) rfl k) ?_
    show own_G _ _ _ _ (s₁.setTop (mkF m 44 #[.val (.int i0), .val (.int i1), .val (.int i2), .val (.int i3), .val (.int (3 : Int32)), .val (.int c0), .val (.int c1), .unset, .unset, .unset, .unset] [(.int i3)]))
    refine own_via (fun _ k => XS.sipush X0.here hx rfl (hb hby at_44) k) ?_
    show own_G _ _ _ _ (s₁.setTop (mkF m 47 #[.val (.int i0), .val (.int i1), .val (.int i2), .val (.int i3), .val (.int (3 : Int32)), .val (.int c0), .val (.int c1), .unset, .unset, .unset, .unset] [(.int (1023 : Int32)), (.int i3)]))
    refine own_via (fun _ k => XS.iand X0.here hx rfl (hb hby at_47) rfl k) ?_
    show own_G _ _ _ _ (s₁.setTop (mkF m 48 #[.val (.int i0), .val (.int i1), .val (.int i2), .val (.int i3), .val (.int (3 : Int32)), .val (.int c0), .val (.int c1), .unset, .unset, .unset, .unset] [(.int (i3 &&& (1023 : Int32)))]))
    refine own_via (fun _ k => XS.iconst X0.here hx rfl (hb hby at_48) k) ?_
    show own_G _ _ _ _ (s₁.setTop (mkF m 49 #[.val (.int i0), .val (.int i1), .val (.int i2), .val (.int i3), .val (.int (3 : Int32)), .val (.int c0), .val (.int c1), .unset, .unset, .unset, .unset] [(.int (1 : Int32)), (.int (i3 &&& (1023 : Int32)))]))
    refine own_via (fun _ k => XS.iadd X0.here hx rfl (hb hby at_49) rfl k) ?_
    show own_G _ _ _ _ (s₁.setTop (mkF m 50 #[.val (.int i0), .val (.int i1), .val (.int i2), .val (.int i3), .val (.int (3 : Int32)), .val (.int c0), .val (.int c1), .unset, .unset, .unset, .unset] [(.int ((i3 &&& (1023 : Int32)) + (1 : Int32)))]))
    refine own_via (fun _ k => XS.istore X0.here hx rfl (hb hby at_50) rfl (l' := #[.val (.int i0), .val (.int i1), .val (.int i2), .val (.int i3), .val (.int (3 : Int32)), .val (.int c0), .val (.int c1), .val (.int ((i3 &&& (1023 : Int32)) + (1 : Int32))), .unset, .unset, .unset]) rfl k) ?_
    show own_G _ _ _ _ (s₁.setTop (mkF m 52 #[.val (.int i0), .val (.int i1), .val (.int i2), .val (.int i3), .val (.int (3 : Int32)), .val (.int c0), .val (.int c1), .val (.int ((i3 &&& (1023 : Int32)) + (1 : Int32))), .unset, .unset, .unset] []))
    have k2 := own_c i3 (Jvm.Kit.i32_mask i3 1023 (by decide) (by decide))
    obtain ⟨c2, hc2⟩ : ∃ z, z = ((i3 &&& (1023 : Int32)) + (1 : Int32)) := ⟨_, rfl⟩
    rw [← hc2] at k2 ⊢
    show own_G _ _ _ _ (s₁.setTop (mkF m 52 #[.val (.int i0), .val (.int i1), .val (.int i2), .val (.int i3), .val (.int (3 : Int32)), .val (.int c0), .val (.int c1), .val (.int c2), .unset, .unset, .unset] []))
    refine own_via (fun _ k => XS.iload X0.here hx rfl (hb hby at_52) rfl k) ?_
    show own_G _ _ _ _ (s₁.setTop (mkF m 54 #[.val (.int i0), .val (.int i1), .val (.int i2), .val (.int i3), .val (.int (3 : Int32)), .val (.int c0), .val (.int c1), .val (.int c2), .unset, .unset, .unset] [(.int (3 : Int32))]))
    obtain ⟨T126, h126, k_b, X126, e126, E126, A126, EA126, st126⟩ := newPE X0 hx hZ (hw _ (List.mem_of_getElem? (i := 2) rfl)) e0 (g := (mkF m 54 #[.val (.int i0), .val (.int i1), .val (.int i2), .val (.int i3), .val (.int (3 : Int32)), .val (.int c0), .val (.int c1), .val (.int c2), .unset, .unset, .unset] [(.int (3 : Int32))])) rfl (hb hby at_54) rfl (by decide) (cap := 3) (by decide) (by decide) (by decide) (by decide) (ad := "[I") rfl
    obtain ⟨b, g126⟩ : ∃ z, z = h0.size := ⟨_, rfl⟩
    rw [← g126] at A126 EA126 st126
    have g_b : n0 ≤ b := Nat.le_trans Z0 (Nat.le_of_eq g126.symm)
    have Z0 := Nat.le_trans Z0 E126.1
    have E_b := EA126
    have V_b : Arv Z h126 b k_b .int (3 : Int32) [(.int (0 : Int32)), (.int (0 : Int32)), (.int (0 : Int32))] (.int (0 : Int32)) := (Arv.new A126 (by decide)).pad (pad_rep [] (.int (0 : Int32)) 3)
    refine own_via st126 ?_
    show own_G _ _ _ _ (T126.setTop (mkF m 56 #[.val (.int i0), .val (.int i1), .val (.int i2), .val (.int i3), .val (.int (3 : Int32)), .val (.int c0), .val (.int c1), .val (.int c2), .unset, .unset, .unset] [(.ref b)]))
    refine own_via (fun _ k => XS.astore X126.here hx rfl (hb hby at_56) rfl rfl (l' := #[.val (.int i0), .val (.int i1), .val (.int i2), .val (.int i3), .val (.int (3 : Int32)), .val (.int c0), .val (.int c1), .val (.int c2), .val (.ref b), .unset, .unset]) rfl k) ?_
    show own_G _ _ _ _ (T126.setTop (mkF m 58 #[.val (.int i0), .val (.int i1), .val (.int i2), .val (.int i3), .val (.int (3 : Int32)), .val (.int c0), .val (.int c1), .val (.int c2), .val (.ref b), .unset, .unset] []))
    refine own_via (fun _ k => XS.iload X126.here hx rfl (hb hby at_58) rfl k) ?_
    show own_G _ _ _ _ (T126.setTop (mkF m 60 #[.val (.int i0), .val (.int i1), .val (.int i2), .val (.int i3), .val (.int (3 : Int32)), .val (.int c0), .val (.int c1), .val (.int c2), .val (.ref b), .unset, .unset] [(.int (3 : Int32))]))
    refine own_via (fun _ k => XS.ifNo X126.here hx rfl (hb hby at_60) rfl ((if0 _ _).trans (tlt (by decide)).2.2.2) k) ?_
    show own_G _ _ _ _ (T126.setTop (mkF m 63 #[.val (.int i0), .val (.int i1), .val (.int i2), .val (.int i3), .val (.int (3 : Int32)), .val (.int c0), .val (.int c1), .val (.int c2), .val (.ref b), .unset, .unset] []))
    refine own_via (fun _ k => XS.aload X126.here hx rfl (hb hby at_63) rfl rfl k) ?_
    show own_G _ _ _ _ (T126.setTop (mkF m 65 #[.val (.int i0), .val (.int i1), .val (.int i2), .val (.int i3), .val (.int (3 : Int32)), .val (.int c0), .val (.int c1), .val (.int c2), .val (.ref b), .unset, .unset] [(.ref b)]))
    refine own_via (fun _ k => XS.iconst X126.here hx rfl (hb hby at_65) k) ?_
    show own_G _ _ _ _ (T126.setTop (mkF m 66 #[.val (.int i0), .val (.int i1), .val (.int i2), .val (.int i3), .val (.int (3 : Int32)), .val (.int c0), .val (.int c1), .val (.int c2), .val (.ref b), .unset, .unset] [(.int (0 : Int32)), (.ref b)]))
    refine own_via (fun _ k => XS.iload X126.here hx rfl (hb hby at_66) rfl k) ?_
    show own_G _ _ _ _ (T126.setTop (mkF m 68 #[.val (.int i0), .val (.int i1), .val (.int i2), .val (.int i3), .val (.int (3 : Int32)), .val (.int c0), .val (.int c1), .val (.int c2), .val (.ref b), .unset, .unset] [(.int c0), (.int (0 : Int32)), (.ref b)]))
    obtain ⟨cl_b, Ar_b, q_b, S_b, Nn_b, H_b, G_b⟩ := V_b
    have hin127 : ¬ ((0 : Int32) < 0 ∨ cl_b.slots.size ≤ ((0 : Int32)).toNatClampNeg) := inb_of S_b ⟨by decide, by decide⟩
    obtain ⟨T127, h127, X127, e127, W127, st127⟩ := stI X126 hx hZ e126 Ar_b (j := (0 : Int32)) hin127 (g := (mkF m 68 #[.val (.int i0), .val (.int i1), .val (.int i2), .val (.int i3), .val (.int (3 : Int32)), .val (.int c0), .val (.int c1), .val (.int c2), .val (.ref b), .unset, .unset] [(.int c0), (.int (0 : Int32)), (.ref b)])) rfl rfl (hb hby at_68)
    have V_b : Arv Z h127 b k_b .int (3 : Int32) ([(.int c0), (.int (0 : Int32)), (.int (0 : Int32))] : List Value) (.int (0 : Int32)) := Arv.set Ar_b q_b S_b Nn_b H_b G_b rfl W127 0 rfl (Nat.le_of_ble_eq_true rfl)
    have E_b := E_b.wr W127
    have Z0 := Nat.le_trans Z0 (Keep.of_wr W127).1
    have N127 := Fr.snoc X127 N0 g_b
    refine own_via st127 ?_
    show own_G _ _ _ _ (T127.setTop (mkF m 69 #[.val (.int i0), .val (.int i1), .val (.int i2), .val (.int i3), .val (.int (3 : Int32)), .val (.int c0), .val (.int c1), .val (.int c2), .val (.ref b), .unset, .unset] []))
    refine own_via (fun _ k => XS.iload X127.here hx rfl (hb hby at_69) rfl k) ?_
    show own_G _ _ _ _ (T127.setTop (mkF m 71 #[.val (.int i0), .val (.int i1), .val (.int i2), .val (.int i3), .val (.int (3 : Int32)), .val (.int c0), .val (.int c1), .val (.int c2), .val (.ref b), .unset, .unset] [(.int (3 : Int32))]))
    refine own_via (fun _ k => XS.iconst X127.here hx rfl (hb hby at_71) k) ?_
    show own_G _ _ _ _ (T127.setTop (mkF m 72 #[.val (.int i0), .val (.int i1), .val (.int i2), .val (.int i3), .val (.int (3 : Int32)), .val (.int c0), .val (.int c1), .val (.int c2), .val (.ref b), .unset, .unset] [(.int (1 : Int32)), (.int (3 : Int32))]))
    refine own_via (fun _ k => XS.icmpNo X127.here hx rfl (hb hby at_72) rfl (tlt (by decide)).2.2.2 k) ?_
    show own_G _ _ _ _ (T127.setTop (mkF m 75 #[.val (.int i0), .val (.int i1), .val (.int i2), .val (.int i3), .val (.int (3 : Int32)), .val (.int c0), .val (.int c1), .val (.int c2), .val (.ref b), .unset, .unset] []))
    refine own_via (fun _ k => XS.aload X127.here hx rfl (hb hby at_75) rfl rfl k) ?_
    show own_G _ _ _ _ (T127.setTop (mkF m 77 #[.val (.int i0), .val (.int i1), .val (.int i2), .val (.int i3), .val (.int (3 : Int32)), .val (.int c0), .val (.int c1), .val (.int c2), .val (.ref b), .unset, .unset] [(.ref b)]))
    refine own_via (fun _ k => XS.iconst X127.here hx rfl (hb hby at_77) k) ?_
    show own_G _ _ _ _ (T127.setTop (mkF m 78 #[.val (.int i0), .val (.int i1), .val (.int i2), .val (.int i3), .val (.int (3 : Int32)), .val (.int c0), .val (.int c1), .val (.int c2), .val (.ref b), .unset, .unset] [(.int (1 : Int32)), (.ref b)]))
    refine own_via (fun _ k => XS.iload X127.here hx rfl (hb hby at_78) rfl k) ?_
    show own_G _ _ _ _ (T127.setTop (mkF m 80 #[.val (.int i0), .val (.int i1), .val (.int i2), .val (.int i3), .val (.int (3 : Int32)), .val (.int c0), .val (.int c1), .val (.int c2), .val (.ref b), .unset, .unset] [(.int c1), (.int (1 : Int32)), (.ref b)]))
    obtain ⟨cl_b, Ar_b, q_b, S_b, Nn_b, H_b, G_b⟩ := V_b
    have hin128 : ¬ ((1 : Int32) < 0 ∨ cl_b.slots.size ≤ ((1 : Int32)).toNatClampNeg) := inb_of S_b ⟨by decide, by decide⟩
    obtain ⟨T128, h128, X128, e128, W128, st128⟩ := stI X127 hx hZ e127 Ar_b (j := (1 : Int32)) hin128 (g := (mkF m 80 #[.val (.int i0), .val (.int i1), .val (.int i2), .val (.int i3), .val (.int (3 : Int32)), .val (.int c0), .val (.int c1), .val (.int c2), .val (.ref b), .unset, .unset] [(.int c1), (.int (1 : Int32)), (.ref b)])) rfl rfl (hb hby at_80)
    have V_b : Arv Z h128 b k_b .int (3 : Int32) ([(.int c0), (.int c1), (.int (0 : Int32))] : List Value) (.int (0 : Int32)) := Arv.set Ar_b q_b S_b Nn_b H_b G_b rfl W128 1 rfl (Nat.le_of_ble_eq_true rfl)
    have E_b := E_b.wr W128
    have Z0 := Nat.le_trans Z0 (Keep.of_wr W128).1
    have N128 := Fr.snoc X128 N127 g_b
    refine own_via st128 ?_
    show own_G _ _ _ _ (T128.setTop (mkF m 81 #[.val (.int i0), .val (.int i1), .val (.int i2), .val (.int i3), .val (.int (3 : Int32)), .val (.int c0), .val (.int c1), .val (.int c2), .val (.ref b), .unset, .unset] []))
    refine own_via (fun _ k => XS.iload X128.here hx rfl (hb hby at_81) rfl k) ?_
    show own_G _ _ _ _ (T128.setTop (mkF m 83 #[.val (.int i0), .val (.int i1), .val (.int i2), .val (.int i3), .val (.int (3 : Int32)), .val (.int c0), .val (.int c1), .val (.int c2), .val (.ref b), .unset, .unset] [(.int (3 : Int32))]))
    refine own_via (fun _ k => XS.iconst X128.here hx rfl (hb hby at_83) k) ?_
    show own_G _ _ _ _ (T128.setTop (mkF m 84 #[.val (.int i0), .val (.int i1), .val (.int i2), .val (.int i3), .val (.int (3 : Int32)), .val (.int c0), .val (.int c1), .val (.int c2), .val (.ref b), .unset, .unset] [(.int (2 : Int32)), (.int (3 : Int32))]))
    refine own_via (fun _ k => XS.icmpNo X128.here hx rfl (hb hby at_84) rfl (tlt (by decide)).2.2.2 k) ?_
    show own_G _ _ _ _ (T128.setTop (mkF m 87 #[.val (.int i0), .val (.int i1), .val (.int i2), .val (.int i3), .val (.int (3 : Int32)), .val (.int c0), .val (.int c1), .val (.int c2), .val (.ref b), .unset, .unset] []))
    refine own_via (fun _ k => XS.aload X128.here hx rfl (hb hby at_87) rfl rfl k) ?_
    show own_G _ _ _ _ (T128.setTop (mkF m 89 #[.val (.int i0), .val (.int i1), .val (.int i2), .val (.int i3), .val (.int (3 : Int32)), .val (.int c0), .val (.int c1), .val (.int c2), .val (.ref b), .unset, .unset] [(.ref b)]))
    refine own_via (fun _ k => XS.iconst X128.here hx rfl (hb hby at_89) k) ?_
    show own_G _ _ _ _ (T128.setTop (mkF m 90 #[.val (.int i0), .val (.int i1), .val (.int i2), .val (.int i3), .val (.int (3 : Int32)), .val (.int c0), .val (.int c1), .val (.int c2), .val (.ref b), .unset, .unset] [(.int (2 : Int32)), (.ref b)]))
    refine own_via (fun _ k => XS.iload X128.here hx rfl (hb hby at_90) rfl k) ?_
    show own_G _ _ _ _ (T128.setTop (mkF m 92 #[.val (.int i0), .val (.int i1), .val (.int i2), .val (.int i3), .val (.int (3 : Int32)), .val (.int c0), .val (.int c1), .val (.int c2), .val (.ref b), .unset, .unset] [(.int c2), (.int (2 : Int32)), (.ref b)]))
    obtain ⟨cl_b, Ar_b, q_b, S_b, Nn_b, H_b, G_b⟩ := V_b
    have hin129 : ¬ ((2 : Int32) < 0 ∨ cl_b.slots.size ≤ ((2 : Int32)).toNatClampNeg) := inb_of S_b ⟨by decide, by decide⟩
    obtain ⟨T129, h129, X129, e129, W129, st129⟩ := stI X128 hx hZ e128 Ar_b (j := (2 : Int32)) hin129 (g := (mkF m 92 #[.val (.int i0), .val (.int i1), .val (.int i2), .val (.int i3), .val (.int (3 : Int32)), .val (.int c0), .val (.int c1), .val (.int c2), .val (.ref b), .unset, .unset] [(.int c2), (.int (2 : Int32)), (.ref b)])) rfl rfl (hb hby at_92)
    have V_b : Arv Z h129 b k_b .int (3 : Int32) ([(.int c0), (.int c1), (.int c2)] : List Value) (.int (0 : Int32)) := Arv.set Ar_b q_b S_b Nn_b H_b G_b rfl W129 2 rfl (Nat.le_of_ble_eq_true rfl)
    have E_b := E_b.wr W129
    have Z0 := Nat.le_trans Z0 (Keep.of_wr W129).1
    have N129 := Fr.snoc X129 N128 g_b
    refine own_via st129 ?_
    show own_G _ _ _ _ (T129.setTop (mkF m 93 #[.val (.int i0), .val (.int i1), .val (.int i2), .val (.int i3), .val (.int (3 : Int32)), .val (.int c0), .val (.int c1), .val (.int c2), .val (.ref b), .unset, .unset] []))
    obtain ⟨T130, h130, X130, e130, E130, A130, D130, -, st130⟩ := newO X129 hx hZ hown (hw _ (List.mem_of_getElem? (i := 3) rfl)) (hw _ (List.mem_of_getElem? (i := 4) rfl)) (hw _ (List.mem_of_getElem? (i := 5) rfl)) e129 (g := (mkF m 93 #[.val (.int i0), .val (.int i1), .val (.int i2), .val (.int i3), .val (.int (3 : Int32)), .val (.int c0), .val (.int c1), .val (.int c2), .val (.ref b), .unset, .unset] [])) rfl (hb hby at_93) (by decide) (by decide)
    obtain ⟨la, g130⟩ : ∃ z, z = h129.size := ⟨_, rfl⟩
    rw [← g130] at A130 D130 st130
    have g_la : n0 ≤ la := Nat.le_trans Z0 (Nat.le_of_eq g130.symm)
    have ne_b_la : b ≠ la := Nat.ne_of_lt (Nat.lt_of_lt_of_le E_b.lt (Nat.le_of_eq g130.symm))
    have E_b := E_b.ext E130
    have V_b := V_b.ext E130
    have Z0 := Nat.le_trans Z0 E130.1
    have E_la := A130
    have F_la_levelCounts : Fld Z h130 la "com/example/vanon/vanon/lattice/Lattice" "levelCounts" "[I" .null := D130 (Or.inr (hw _ (List.mem_of_getElem? (i := 22) rfl))) (ty := (.array .int)) (by decide)
    have F_la_strides : Fld Z h130 la "com/example/vanon/vanon/lattice/Lattice" "strides" "[I" .null := D130 (Or.inr (hw _ (List.mem_of_getElem? (i := 24) rfl))) (ty := (.array .int)) (by decide)
    have F_la_size : Fld Z h130 la "com/example/vanon/vanon/lattice/Lattice" "size" "I" (.int (0 : Int32)) := D130 (Or.inr (hw _ (List.mem_of_getElem? (i := 26) rfl))) (ty := .int) (by decide)
    refine own_via st130 ?_
    show own_G _ _ _ _ (T130.setTop (mkF m 96 #[.val (.int i0), .val (.int i1), .val (.int i2), .val (.int i3), .val (.int (3 : Int32)), .val (.int c0), .val (.int c1), .val (.int c2), .val (.ref b), .unset, .unset] [(.ref la)]))
    refine own_via (fun _ k => XS.dup X130.here hx rfl (hb hby at_96) rfl rfl k) ?_
    show own_G _ _ _ _ (T130.setTop (mkF m 97 #[.val (.int i0), .val (.int i1), .val (.int i2), .val (.int i3), .val (.int (3 : Int32)), .val (.int c0), .val (.int c1), .val (.int c2), .val (.ref b), .unset, .unset] [(.ref la), (.ref la)]))
    refine own_via (fun _ k => XS.aload X130.here hx rfl (hb hby at_97) rfl rfl k) ?_
    show own_G _ _ _ _ (T130.setTop (mkF m 99 #[.val (.int i0), .val (.int i1), .val (.int i2), .val (.int i3), .val (.int (3 : Int32)), .val (.int c0), .val (.int c1), .val (.int c2), .val (.ref b), .unset, .unset] [(.ref b), (.ref la), (.ref la)]))
    have u0 : 0 ≤ (1 : Int64).toInt ∧ (1 : Int64).toInt ≤ 1 := by decide
    have u1 := own_pr (p := (1 : Int64)) (c := c0) (B := 1) u0.1 u0.2 k0.1 k0.2 (by decide)
    have u2 := own_pr (p := ((1 : Int64) * (c0.toInt64))) (c := c1) (B := 1024) u1.1 u1.2 k1.1 k1.2 (by decide)
    have u3 := own_pr (p := (((1 : Int64) * (c0.toInt64)) * (c1.toInt64))) (c := c2) (B := 1048576) u2.1 u2.2 k2.1 k2.2 (by decide)
    obtain ⟨_, _, ⟨T131, L131, k131, n131⟩, -, X131, ⟨Lc131, hQ131, l131, y131, z131⟩, st131⟩ := X130.specialBack hx (y := (⟨"com/example/vanon/vanon/lattice/Lattice", "<init>", "([I)V"⟩ : MethodName)) rfl hown (mvT hZ (hw _ (List.mem_of_getElem? (i := 6) rfl))) (mvT hZ (hw _ (List.mem_of_getElem? (i := 7) rfl))) (mvT hZ (hw _ (List.mem_of_getElem? (i := 8) rfl))) (by decide) (backOf (W := 1) (rmc3 l Z a0 hw [] la b k_b c0 c1 c2 h130 n0 Z0 E_la F_la_levelCounts F_la_strides F_la_size E_b V_b g_la (Ne.symm ne_b_la) k0.1 (own_big u1.2 (by decide)) k1.1 (own_big u2.2 (by decide)) k2.1 (own_big u3.2 (by decide))) hZ (hw _ (List.mem_of_getElem? (i := 8) rfl)) (hw _ (List.mem_of_getElem? (i := 5) rfl)) (by decide) (by decide)) (g := (mkF m 99 #[.val (.int i0), .val (.int i1), .val (.int i2), .val (.int i3), .val (.int (3 : Int32)), .val (.int c0), .val (.int c1), .val (.int c2), .val (.ref b), .unset, .unset] [(.ref b), (.ref la), (.ref la)])) rfl (by rw [hml]; rfl) (Steps.refl _) (a := la) (argsL := [(.ref b)]) (rest := [(.ref la)]) (lenOf pd_0 rfl) rfl (by show 2 * 0 + _ ≤ _; exact Nat.le_of_eq rfl) (hb hby at_99) (fun _ _ => ⟨rfl, e130, Nat.le_of_ble_eq_true rfl, Nat.le_of_ble_eq_true rfl⟩)
    dsimp only [Pt.U, Pt.locs, Pt.cells, Pt.slots] at X131 l131 y131 z131 st131 hQ131
    subst l131 y131 z131
    obtain ⟨rfl, N131q, K131, -, b2, b3, k3, g_b2, g_b3, F_la_levelCounts, V_b2, F_la_strides, V_b3, F_la_size⟩ := hQ131
    have N131 := Fr.app N129 N131q
    have E_b := E_b.keep K131
    have V_b := V_b.keep K131 (by simp [ne_b_la])
    have E_la := E_la.keep K131
    have Z0 := Nat.le_trans Z0 K131.1
    refine own_via (fun _ kt => st131.trans kt) ?_
    show own_G _ _ _ _ (T131.setTop (mkF m 102 #[.val (.int i0), .val (.int i1), .val (.int i2), .val (.int i3), .val (.int (3 : Int32)), .val (.int c0), .val (.int c1), .val (.int c2), .val (.ref b), .unset, .unset] [(.ref la)]))
    refine own_via (fun _ k => XS.astore X131.here hx rfl (hb hby at_102) rfl rfl (l' := #[.val (.int i0), .val (.int i1), .val (.int i2), .val (.int i3), .val (.int (3 : Int32)), .val (.int c0), .val (.int c1), .val (.int c2), .val (.ref b), .val (.ref la), .unset]) rfl k) ?_
    show own_G _ _ _ _ (T131.setTop (mkF m 104 #[.val (.int i0), .val (.int i1), .val (.int i2), .val (.int i3), .val (.int (3 : Int32)), .val (.int c0), .val (.int c1), .val (.int c2), .val (.ref b), .val (.ref la), .unset] []))
    refine own_via (fun _ k => XS.aload X131.here hx rfl (hb hby at_104) rfl rfl k) ?_
    show own_G _ _ _ _ (T131.setTop (mkF m 106 #[.val (.int i0), .val (.int i1), .val (.int i2), .val (.int i3), .val (.int (3 : Int32)), .val (.int c0), .val (.int c1), .val (.int c2), .val (.ref b), .val (.ref la), .unset] [(.ref la)]))
    obtain ⟨cq132, kq132, q132a, q132b, q132c⟩ := isOf hZ rfl E_la
    obtain ⟨_, _, ⟨T132, L132, k132, n132⟩, -, X132, ⟨Lc132, hQ132, l132, y132, z132⟩, st132⟩ := X131.virtualBack hx (y := (⟨"com/example/vanon/vanon/lattice/Lattice", "top", "()[I"⟩ : MethodName)) (z := (⟨"com/example/vanon/vanon/lattice/Lattice", "top", "()[I"⟩ : MethodName)) hown (mvT hZ (hw _ (List.mem_of_getElem? (i := 27) rfl))) (mvT hZ (hw _ (List.mem_of_getElem? (i := 28) rfl))) (notFace_of_selects (args := #[]) (mvT hZ (hw _ (List.mem_of_getElem? (i := 30) rfl)))) (mvT hZ (hw _ (List.mem_of_getElem? (i := 30) rfl))) (mvT hZ (hw _ (List.mem_of_getElem? (i := 29) rfl))) (by decide) (backOf (W := 0) (rmt3 l Z a0 hw [] la b2 k_b c0 c1 c2 T131.heap n0 Z0 F_la_levelCounts V_b2) hZ (hw _ (List.mem_of_getElem? (i := 31) rfl)) (hw _ (List.mem_of_getElem? (i := 5) rfl)) (by decide) (by decide)) q132a q132c (g := (mkF m 106 #[.val (.int i0), .val (.int i1), .val (.int i2), .val (.int i3), .val (.int (3 : Int32)), .val (.int c0), .val (.int c1), .val (.int c2), .val (.ref b), .val (.ref la), .unset] [(.ref la)])) rfl (by rw [hml]; rfl) (Steps.refl _) (argsL := []) (rest := []) (lenOf pd_1 rfl) rfl (by show 2 * 0 + _ ≤ _; exact Nat.le_of_eq rfl) (hb hby at_106) (fun _ _ => ⟨rfl, rfl, Nat.le_of_ble_eq_true rfl, Nat.le_of_ble_eq_true rfl⟩)
    dsimp only [Pt.U, Pt.locs, Pt.cells, Pt.slots] at X132 l132 y132 z132 st132 hQ132
    subst l132 y132 z132
    obtain ⟨tt, kt, rfl, N132q, K132, V_tt⟩ := hQ132
    have N132 := Fr.app N131 N132q
    have E_b := E_b.keep K132
    have V_b := V_b.keep K132 (by simp)
    have E_la := E_la.keep K132
    have Z0 := Nat.le_trans Z0 K132.1
    refine own_via (fun _ kt => st132.trans kt) ?_
    show own_G _ _ _ _ (T132.setTop (mkF m 109 #[.val (.int i0), .val (.int i1), .val (.int i2), .val (.int i3), .val (.int (3 : Int32)), .val (.int c0), .val (.int c1), .val (.int c2), .val (.ref b), .val (.ref la), .unset] [(.ref tt)]))
    refine own_via (fun _ k => XS.astore X132.here hx rfl (hb hby at_109) rfl rfl (l' := #[.val (.int i0), .val (.int i1), .val (.int i2), .val (.int i3), .val (.int (3 : Int32)), .val (.int c0), .val (.int c1), .val (.int c2), .val (.ref b), .val (.ref la), .val (.ref tt)]) rfl k) ?_
    show own_G _ _ _ _ (T132.setTop (mkF m 111 #[.val (.int i0), .val (.int i1), .val (.int i2), .val (.int i3), .val (.int (3 : Int32)), .val (.int c0), .val (.int c1), .val (.int c2), .val (.ref b), .val (.ref la), .val (.ref tt)] []))
    refine own_via (fun _ k => XS.aload X132.here hx rfl (hb hby at_111) rfl rfl k) ?_
    show own_G _ _ _ _ (T132.setTop (mkF m 113 #[.val (.int i0), .val (.int i1), .val (.int i2), .val (.int i3), .val (.int (3 : Int32)), .val (.int c0), .val (.int c1), .val (.int c2), .val (.ref b), .val (.ref la), .val (.ref tt)] [(.ref tt)]))
    refine own_via (fun _ k => XS.ifnullNo X132.here hx rfl (hb hby at_113) rfl k) ?_
    show own_G _ _ _ _ (T132.setTop (mkF m 116 #[.val (.int i0), .val (.int i1), .val (.int i2), .val (.int i3), .val (.int (3 : Int32)), .val (.int c0), .val (.int c1), .val (.int c2), .val (.ref b), .val (.ref la), .val (.ref tt)] []))
    refine own_via (fun _ k => XS.aload X132.here hx rfl (hb hby at_116) rfl rfl k) ?_
    show own_G _ _ _ _ (T132.setTop (mkF m 118 #[.val (.int i0), .val (.int i1), .val (.int i2), .val (.int i3), .val (.int (3 : Int32)), .val (.int c0), .val (.int c1), .val (.int c2), .val (.ref b), .val (.ref la), .val (.ref tt)] [(.ref tt)]))
    obtain ⟨cl133, Ar133, -, Sz133, Nn133, -, -⟩ := id V_tt
    refine own_via (fun _ k => X132.arraylength hx Ar133.1 (State.isArrayOf_alike hZ.alike Ar133.2.1) (g := (mkF m 118 #[.val (.int i0), .val (.int i1), .val (.int i2), .val (.int i3), .val (.int (3 : Int32)), .val (.int c0), .val (.int c1), .val (.int c2), .val (.ref b), .val (.ref la), .val (.ref tt)] [(.ref tt)])) rfl rfl (hb hby at_118) _ k) ?_
    rw [len_of Sz133 Nn133]
    show own_G _ _ _ _ (T132.setTop (mkF m 119 #[.val (.int i0), .val (.int i1), .val (.int i2), .val (.int i3), .val (.int (3 : Int32)), .val (.int c0), .val (.int c1), .val (.int c2), .val (.ref b), .val (.ref la), .val (.ref tt)] [(.int (3 : Int32))]))
    refine own_via (fun _ k => XS.iload X132.here hx rfl (hb hby at_119) rfl k) ?_
    show own_G _ _ _ _ (T132.setTop (mkF m 121 #[.val (.int i0), .val (.int i1), .val (.int i2), .val (.int i3), .val (.int (3 : Int32)), .val (.int c0), .val (.int c1), .val (.int c2), .val (.ref b), .val (.ref la), .val (.ref tt)] [(.int (3 : Int32)), (.int (3 : Int32))]))
    refine own_via (fun _ k => XS.icmpYes X132.here hx rfl (pc0 := 121) (pc' := 126) rfl (hb hby at_121) rfl (teq (by decide)).1 (by decide) (by decide) k) ?_
    show own_G _ _ _ _ (T132.setTop (mkF m 126 #[.val (.int i0), .val (.int i1), .val (.int i2), .val (.int i3), .val (.int (3 : Int32)), .val (.int c0), .val (.int c1), .val (.int c2), .val (.ref b), .val (.ref la), .val (.ref tt)] []))
    refine own_via (fun _ k => XS.iload X132.here hx rfl (hb hby at_126) rfl k) ?_
    show own_G _ _ _ _ (T132.setTop (mkF m 128 #[.val (.int i0), .val (.int i1), .val (.int i2), .val (.int i3), .val (.int (3 : Int32)), .val (.int c0), .val (.int c1), .val (.int c2), .val (.ref b), .val (.ref la), .val (.ref tt)] [(.int (3 : Int32))]))
    refine own_via (fun _ k => XS.ifNo X132.here hx rfl (hb hby at_128) rfl ((if0 _ _).trans (tlt (by decide)).2.2.2) k) ?_
    show own_G _ _ _ _ (T132.setTop (mkF m 131 #[.val (.int i0), .val (.int i1), .val (.int i2), .val (.int i3), .val (.int (3 : Int32)), .val (.int c0), .val (.int c1), .val (.int c2), .val (.ref b), .val (.ref la), .val (.ref tt)] []))
    refine own_via (fun _ k => XS.aload X132.here hx rfl (hb hby at_131) rfl rfl k) ?_
    show own_G _ _ _ _ (T132.setTop (mkF m 133 #[.val (.int i0), .val (.int i1), .val (.int i2), .val (.int i3), .val (.int (3 : Int32)), .val (.int c0), .val (.int c1), .val (.int c2), .val (.ref b), .val (.ref la), .val (.ref tt)] [(.ref tt)]))
    refine own_via (fun _ k => XS.iconst X132.here hx rfl (hb hby at_133) k) ?_
    show own_G _ _ _ _ (T132.setTop (mkF m 134 #[.val (.int i0), .val (.int i1), .val (.int i2), .val (.int i3), .val (.int (3 : Int32)), .val (.int c0), .val (.int c1), .val (.int c2), .val (.ref b), .val (.ref la), .val (.ref tt)] [(.int (0 : Int32)), (.ref tt)]))
    obtain ⟨cl134, Ar134, -, Sz134, Nn134, Hh134, -⟩ := id V_tt
    have hin134 : ¬ ((0 : Int32) < 0 ∨ cl134.slots.size ≤ ((0 : Int32)).toNatClampNeg) := inb_of Sz134 ⟨by decide, by decide⟩
    have hat134 : cl134.slots[((0 : Int32)).toNatClampNeg]? = some (.int (c0 - (1 : Int32))) := Has.at Hh134 hin134 rfl
    refine own_via (fun _ k => X132.iaload hx (j := (0 : Int32)) (v := (.int (c0 - (1 : Int32)))) Ar134.1 (State.isArrayOf_alike hZ.alike Ar134.2.1) Ar134.2.2 hin134 hat134 (g := (mkF m 134 #[.val (.int i0), .val (.int i1), .val (.int i2), .val (.int i3), .val (.int (3 : Int32)), .val (.int c0), .val (.int c1), .val (.int c2), .val (.ref b), .val (.ref la), .val (.ref tt)] [(.int (0 : Int32)), (.ref tt)])) rfl rfl (hb hby at_134) _ k) ?_
    show own_G _ _ _ _ (T132.setTop (mkF m 135 #[.val (.int i0), .val (.int i1), .val (.int i2), .val (.int i3), .val (.int (3 : Int32)), .val (.int c0), .val (.int c1), .val (.int c2), .val (.ref b), .val (.ref la), .val (.ref tt)] [(.int (c0 - (1 : Int32)))]))
    refine own_via (fun _ k => XS.iload X132.here hx rfl (hb hby at_135) rfl k) ?_
    show own_G _ _ _ _ (T132.setTop (mkF m 137 #[.val (.int i0), .val (.int i1), .val (.int i2), .val (.int i3), .val (.int (3 : Int32)), .val (.int c0), .val (.int c1), .val (.int c2), .val (.ref b), .val (.ref la), .val (.ref tt)] [(.int c0), (.int (c0 - (1 : Int32)))]))
    refine own_via (fun _ k => XS.iconst X132.here hx rfl (hb hby at_137) k) ?_
    show own_G _ _ _ _ (T132.setTop (mkF m 138 #[.val (.int i0), .val (.int i1), .val (.int i2), .val (.int i3), .val (.int (3 : Int32)), .val (.int c0), .val (.int c1), .val (.int c2), .val (.ref b), .val (.ref la), .val (.ref tt)] [(.int (1 : Int32)), (.int c0), (.int (c0 - (1 : Int32)))]))
    refine own_via (fun _ k => XS.isub X132.here hx rfl (hb hby at_138) rfl k) ?_
    show own_G _ _ _ _ (T132.setTop (mkF m 139 #[.val (.int i0), .val (.int i1), .val (.int i2), .val (.int i3), .val (.int (3 : Int32)), .val (.int c0), .val (.int c1), .val (.int c2), .val (.ref b), .val (.ref la), .val (.ref tt)] [(.int (c0 - (1 : Int32))), (.int (c0 - (1 : Int32)))]))
    refine own_via (fun _ k => XS.icmpYes X132.here hx rfl (pc0 := 139) (pc' := 144) rfl (hb hby at_139) rfl (teq rfl).1 (by decide) (by decide) k) ?_
    show own_G _ _ _ _ (T132.setTop (mkF m 144 #[.val (.int i0), .val (.int i1), .val (.int i2), .val (.int i3), .val (.int (3 : Int32)), .val (.int c0), .val (.int c1), .val (.int c2), .val (.ref b), .val (.ref la), .val (.ref tt)] []))
    refine own_via (fun _ k => XS.iload X132.here hx rfl (hb hby at_144) rfl k) ?_
    show own_G _ _ _ _ (T132.setTop (mkF m 146 #[.val (.int i0), .val (.int i1), .val (.int i2), .val (.int i3), .val (.int (3 : Int32)), .val (.int c0), .val (.int c1), .val (.int c2), .val (.ref b), .val (.ref la), .val (.ref tt)] [(.int (3 : Int32))]))
    refine own_via (fun _ k => XS.iconst X132.here hx rfl (hb hby at_146) k) ?_
    show own_G _ _ _ _ (T132.setTop (mkF m 147 #[.val (.int i0), .val (.int i1), .val (.int i2), .val (.int i3), .val (.int (3 : Int32)), .val (.int c0), .val (.int c1), .val (.int c2), .val (.ref b), .val (.ref la), .val (.ref tt)] [(.int (1 : Int32)), (.int (3 : Int32))]))
    refine own_via (fun _ k => XS.icmpNo X132.here hx rfl (hb hby at_147) rfl (tlt (by decide)).2.2.2 k) ?_
    show own_G _ _ _ _ (T132.setTop (mkF m 150 #[.val (.int i0), .val (.int i1), .val (.int i2), .val (.int i3), .val (.int (3 : Int32)), .val (.int c0), .val (.int c1), .val (.int c2), .val (.ref b), .val (.ref la), .val (.ref tt)] []))
    refine own_via (fun _ k => XS.aload X132.here hx rfl (hb hby at_150) rfl rfl k) ?_
    show own_G _ _ _ _ (T132.setTop (mkF m 152 #[.val (.int i0), .val (.int i1), .val (.int i2), .val (.int i3), .val (.int (3 : Int32)), .val (.int c0), .val (.int c1), .val (.int c2), .val (.ref b), .val (.ref la), .val (.ref tt)] [(.ref tt)]))
    refine own_via (fun _ k => XS.iconst X132.here hx rfl (hb hby at_152) k) ?_
    show own_G _ _ _ _ (T132.setTop (mkF m 153 #[.val (.int i0), .val (.int i1), .val (.int i2), .val (.int i3), .val (.int (3 : Int32)), .val (.int c0), .val (.int c1), .val (.int c2), .val (.ref b), .val (.ref la), .val (.ref tt)] [(.int (1 : Int32)), (.ref tt)]))
    obtain ⟨cl135, Ar135, -, Sz135, Nn135, Hh135, -⟩ := id V_tt
    have hin135 : ¬ ((1 : Int32) < 0 ∨ cl135.slots.size ≤ ((1 : Int32)).toNatClampNeg) := inb_of Sz135 ⟨by decide, by decide⟩
    have hat135 : cl135.slots[((1 : Int32)).toNatClampNeg]? = some (.int (c1 - (1 : Int32))) := Has.at Hh135 hin135 rfl
    refine own_via (fun _ k => X132.iaload hx (j := (1 : Int32)) (v := (.int (c1 - (1 : Int32)))) Ar135.1 (State.isArrayOf_alike hZ.alike Ar135.2.1) Ar135.2.2 hin135 hat135 (g := (mkF m 153 #[.val (.int i0), .val (.int i1), .val (.int i2), .val (.int i3), .val (.int (3 : Int32)), .val (.int c0), .val (.int c1), .val (.int c2), .val (.ref b), .val (.ref la), .val (.ref tt)] [(.int (1 : Int32)), (.ref tt)])) rfl rfl (hb hby at_153) _ k) ?_
    show own_G _ _ _ _ (T132.setTop (mkF m 154 #[.val (.int i0), .val (.int i1), .val (.int i2), .val (.int i3), .val (.int (3 : Int32)), .val (.int c0), .val (.int c1), .val (.int c2), .val (.ref b), .val (.ref la), .val (.ref tt)] [(.int (c1 - (1 : Int32)))]))
    refine own_via (fun _ k => XS.iload X132.here hx rfl (hb hby at_154) rfl k) ?_
    show own_G _ _ _ _ (T132.setTop (mkF m 156 #[.val (.int i0), .val (.int i1), .val (.int i2), .val (.int i3), .val (.int (3 : Int32)), .val (.int c0), .val (.int c1), .val (.int c2), .val (.ref b), .val (.ref la), .val (.ref tt)] [(.int c1), (.int (c1 - (1 : Int32)))]))
    refine own_via (fun _ k => XS.iconst X132.here hx rfl (hb hby at_156) k) ?_
    show own_G _ _ _ _ (T132.setTop (mkF m 157 #[.val (.int i0), .val (.int i1), .val (.int i2), .val (.int i3), .val (.int (3 : Int32)), .val (.int c0), .val (.int c1), .val (.int c2), .val (.ref b), .val (.ref la), .val (.ref tt)] [(.int (1 : Int32)), (.int c1), (.int (c1 - (1 : Int32)))]))
    refine own_via (fun _ k => XS.isub X132.here hx rfl (hb hby at_157) rfl k) ?_
    show own_G _ _ _ _ (T132.setTop (mkF m 158 #[.val (.int i0), .val (.int i1), .val (.int i2), .val (.int i3), .val (.int (3 : Int32)), .val (.int c0), .val (.int c1), .val (.int c2), .val (.ref b), .val (.ref la), .val (.ref tt)] [(.int (c1 - (1 : Int32))), (.int (c1 - (1 : Int32)))]))
    refine own_via (fun _ k => XS.icmpYes X132.here hx rfl (pc0 := 158) (pc' := 163) rfl (hb hby at_158) rfl (teq rfl).1 (by decide) (by decide) k) ?_
    show own_G _ _ _ _ (T132.setTop (mkF m 163 #[.val (.int i0), .val (.int i1), .val (.int i2), .val (.int i3), .val (.int (3 : Int32)), .val (.int c0), .val (.int c1), .val (.int c2), .val (.ref b), .val (.ref la), .val (.ref tt)] []))
    refine own_via (fun _ k => XS.iload X132.here hx rfl (hb hby at_163) rfl k) ?_
    show own_G _ _ _ _ (T132.setTop (mkF m 165 #[.val (.int i0), .val (.int i1), .val (.int i2), .val (.int i3), .val (.int (3 : Int32)), .val (.int c0), .val (.int c1), .val (.int c2), .val (.ref b), .val (.ref la), .val (.ref tt)] [(.int (3 : Int32))]))
    refine own_via (fun _ k => XS.iconst X132.here hx rfl (hb hby at_165) k) ?_
    show own_G _ _ _ _ (T132.setTop (mkF m 166 #[.val (.int i0), .val (.int i1), .val (.int i2), .val (.int i3), .val (.int (3 : Int32)), .val (.int c0), .val (.int c1), .val (.int c2), .val (.ref b), .val (.ref la), .val (.ref tt)] [(.int (2 : Int32)), (.int (3 : Int32))]))
    refine own_via (fun _ k => XS.icmpNo X132.here hx rfl (hb hby at_166) rfl (tlt (by decide)).2.2.2 k) ?_
    show own_G _ _ _ _ (T132.setTop (mkF m 169 #[.val (.int i0), .val (.int i1), .val (.int i2), .val (.int i3), .val (.int (3 : Int32)), .val (.int c0), .val (.int c1), .val (.int c2), .val (.ref b), .val (.ref la), .val (.ref tt)] []))
    refine own_via (fun _ k => XS.aload X132.here hx rfl (hb hby at_169) rfl rfl k) ?_
    show own_G _ _ _ _ (T132.setTop (mkF m 171 #[.val (.int i0), .val (.int i1), .val (.int i2), .val (.int i3), .val (.int (3 : Int32)), .val (.int c0), .val (.int c1), .val (.int c2), .val (.ref b), .val (.ref la), .val (.ref tt)] [(.ref tt)]))
    refine own_via (fun _ k => XS.iconst X132.here hx rfl (hb hby at_171) k) ?_
    show own_G _ _ _ _ (T132.setTop (mkF m 172 #[.val (.int i0), .val (.int i1), .val (.int i2), .val (.int i3), .val (.int (3 : Int32)), .val (.int c0), .val (.int c1), .val (.int c2), .val (.ref b), .val (.ref la), .val (.ref tt)] [(.int (2 : Int32)), (.ref tt)]))
    obtain ⟨cl136, Ar136, -, Sz136, Nn136, Hh136, -⟩ := id V_tt
    have hin136 : ¬ ((2 : Int32) < 0 ∨ cl136.slots.size ≤ ((2 : Int32)).toNatClampNeg) := inb_of Sz136 ⟨by decide, by decide⟩
    have hat136 : cl136.slots[((2 : Int32)).toNatClampNeg]? = some (.int (c2 - (1 : Int32))) := Has.at Hh136 hin136 rfl
    refine own_via (fun _ k => X132.iaload hx (j := (2 : Int32)) (v := (.int (c2 - (1 : Int32)))) Ar136.1 (State.isArrayOf_alike hZ.alike Ar136.2.1) Ar136.2.2 hin136 hat136 (g := (mkF m 172 #[.val (.int i0), .val (.int i1), .val (.int i2), .val (.int i3), .val (.int (3 : Int32)), .val (.int c0), .val (.int c1), .val (.int c2), .val (.ref b), .val (.ref la), .val (.ref tt)] [(.int (2 : Int32)), (.ref tt)])) rfl rfl (hb hby at_172) _ k) ?_
    show own_G _ _ _ _ (T132.setTop (mkF m 173 #[.val (.int i0), .val (.int i1), .val (.int i2), .val (.int i3), .val (.int (3 : Int32)), .val (.int c0), .val (.int c1), .val (.int c2), .val (.ref b), .val (.ref la), .val (.ref tt)] [(.int (c2 - (1 : Int32)))]))
    refine own_via (fun _ k => XS.iload X132.here hx rfl (hb hby at_173) rfl k) ?_
    show own_G _ _ _ _ (T132.setTop (mkF m 175 #[.val (.int i0), .val (.int i1), .val (.int i2), .val (.int i3), .val (.int (3 : Int32)), .val (.int c0), .val (.int c1), .val (.int c2), .val (.ref b), .val (.ref la), .val (.ref tt)] [(.int c2), (.int (c2 - (1 : Int32)))]))
    refine own_via (fun _ k => XS.iconst X132.here hx rfl (hb hby at_175) k) ?_
    show own_G _ _ _ _ (T132.setTop (mkF m 176 #[.val (.int i0), .val (.int i1), .val (.int i2), .val (.int i3), .val (.int (3 : Int32)), .val (.int c0), .val (.int c1), .val (.int c2), .val (.ref b), .val (.ref la), .val (.ref tt)] [(.int (1 : Int32)), (.int c2), (.int (c2 - (1 : Int32)))]))
    refine own_via (fun _ k => XS.isub X132.here hx rfl (hb hby at_176) rfl k) ?_
    show own_G _ _ _ _ (T132.setTop (mkF m 177 #[.val (.int i0), .val (.int i1), .val (.int i2), .val (.int i3), .val (.int (3 : Int32)), .val (.int c0), .val (.int c1), .val (.int c2), .val (.ref b), .val (.ref la), .val (.ref tt)] [(.int (c2 - (1 : Int32))), (.int (c2 - (1 : Int32)))]))
    refine own_via (fun _ k => XS.icmpYes X132.here hx rfl (pc0 := 177) (pc' := 182) rfl (hb hby at_177) rfl (teq rfl).1 (by decide) (by decide) k) ?_
    show own_G _ _ _ _ (T132.setTop (mkF m 182 #[.val (.int i0), .val (.int i1), .val (.int i2), .val (.int i3), .val (.int (3 : Int32)), .val (.int c0), .val (.int c1), .val (.int c2), .val (.ref b), .val (.ref la), .val (.ref tt)] []))
    refine own_via (fun _ k => XS.iconst X132.here hx rfl (hb hby at_182) k) ?_
    show own_G _ _ _ _ (T132.setTop (mkF m 183 #[.val (.int i0), .val (.int i1), .val (.int i2), .val (.int i3), .val (.int (3 : Int32)), .val (.int c0), .val (.int c1), .val (.int c2), .val (.ref b), .val (.ref la), .val (.ref tt)] [(.int (1 : Int32))]))
    obtain ⟨fs, hr, hrun, hended, hW, hsame⟩ := X132.leave (v := some (.int (1 : Int32))) (fun h => by rw [Bd.returns] at h; cases h)
    exact ⟨_, _, retN X132 hx (t := .boolean) Bd.returns (by simp) (hb hby at_183) hr, hrun, hended, _, _, rfl, ⟨rfl, N132⟩, ⟨_, rfl⟩, hW, hsame.mono (by decide) (by decide)⟩
set_option maxRecDepth 65536 in
set_option maxHeartbeats 40000000 in
theorem comes_1 {Post : Tables → Env → Array Value → State → Outcome → State → Prop} (hpost : ∀ tb e args s v u, (limb_1_1.after args s (.returned v) u = true ∧ limb_1_2.after args s (.returned v) u = true ∧ True) → FrameEnd s (.returned v) u (Jvm.fieldLocs frame_1_writes args s ++ Jvm.arrayLocs frame_1_arrays args s ++ Jvm.staticLocs frame_1_statics s) 24 128 → Post tb e args s (.returned v) u) :
    ArmFor flags0 classFile x code maxLocals ret World_1 tables_1 room_1 Calls_1 rest_1 Pre_1 Post := by
  intro l hfl _ _ p e ha hc hk s m args below hf hA hF happ hP
  obtain ⟨hcalls, hrest, hpre⟩ := hP
  obtain ⟨-, -, -, hnamed, -, -, -, hat⟩ := (Spec.applies_iff hf).mp happ
  have hall := flat_of_before _ (show (Jvm.Cond.and given_1 narrow_1).before args s = true from hpre)
  have hKK : own_Kinds [.int, .int, .int, .int] args := by
    refine own_Kinds_of (s := s) ?_ fun q hq => hall q ?_
    · have := hall (.count 4) (by simp [flatC, given_1])
      simpa [Cond.before, Cond.holds, Cond.value] using this
    · have hf : flatC (Jvm.Cond.and given_1 narrow_1) = .count 4 :: (Jvm.Sym.sorts 0 [.int, .int, .int, .int] ++ flatC narrow_1) := rfl
      rw [hf]; exact List.mem_cons_of_mem _ (List.mem_append_left _ hq)
  obtain ⟨v0, v1, v2, v3, rfl, q0, q1, q2, q3⟩ := own_k4 hKK
  obtain ⟨i0, rfl⟩ := own_int q0
  obtain ⟨i1, rfl⟩ := own_int q1
  obtain ⟨i2, rfl⟩ := own_int q2
  obtain ⟨i3, rfl⟩ := own_int q3
  have hw := fun d (hd : d ∈ tables_1) => atoms_spec (ws := Jvm.Cond.code x code maxLocals ret :: tables_1) hat d (List.mem_cons_of_mem _ hd)
  obtain ⟨n, o, h1, h2, h3, _, L, rfl, ⟨rfl, N⟩, hq⟩ := rm0 l s _ hw tables_1 i0 i1 i2 i3 s.heap s.heap.size (Nat.le_refl _)  p e ha hc hk s m _ below hf ((Spec.applies_iff_loose hf).mp happ).1 ⟨rfl, State.Warmed39.refl s, rfl⟩ trivial
  refine ⟨n, _, h1, h2, h3, hpost _ _ _ _ _ _ ⟨Cond.after_iff.mpr rfl, Cond.after_iff.mpr (eq_i res_at (Term.int_eval (1)) rfl), trivial⟩ ⟨hq.1, hq.2.1, (hq.2.2.sift fun y hy => Or.inr (N y hy)).mono (by decide) (by decide)⟩⟩
theorem main_1_1 : Claimed_1_1 := comes_1 fun _ _ _ _ _ _ h hF => ⟨h.1, hF⟩
theorem main_1_2 : Claimed_1_2 := comes_1 fun _ _ _ _ _ _ h hF => ⟨h.2.1, hF⟩
end Jvm.Pilot.@@N@@
namespace Jvm.Pilot.@@N@@
open Jvm Jvm.ClassFile Sem Op Lib Jvm.Free Jvm.Stand Jvm.Pilot.@@N@@.Jvm.D
/-! MADE BY PROGRAM (witnessworld.py) out of the Statement's table words and the real class files: 9 classes; the members and pool entries that the words name. The judged class is class 1, her method 1. -/
namespace start1
open Jvm.ClassFile
def u (s : String) : CpInfo := .utf8 (stringToUtf16 s)
/-- a pool by its gaps: so many unusable entries, then the entry; so many at the end -/
def gap : Nat → List CpInfo → List CpInfo
  | 0, r => r
  | n + 1, r => .unusable :: gap n r
def poolList (es : List (Nat × CpInfo)) (last : Nat) : List CpInfo := es.foldr (fun e r => gap e.1 (e.2 :: r)) (gap last [])
def pool (es : List (Nat × CpInfo)) (last : Nat) : Array CpInfo := ⟨poolList es last⟩
def fileOf (pool : Array CpInfo) (this : Nat) (attrs : Array Attribute := #[]) (ms : Array MethodInfo := #[]) (fl : Nat := 33) (sup : Nat := 0) (ifs : Array Nat := #[]) (fds : Array FieldInfo := #[]) : ClassFile where
  minorVersion := 0
  majorVersion := 65
  constantPool := pool
  accessFlags := fl
  thisClass := this
  superClass := sup
  interfaces := ifs
  fields := fds
  methods := ms
  attributes := attrs
def plain (name : String) (sup : Option ClassId) : Class where
  name := name
  kind := .ordinary
  loader := none
  accessFlags := 33
  super := sup
  interfaces := #[]
  cf := none
  fields := #[]
  methods := #[]
  instanceTypes := #[]
  staticTypes := #[]
  resolved := #[]
  callSites := []
  init := .initialized
  statics := none
  mirror := none

def pool0 : Array CpInfo := pool [(5, u "<init>"), (0, u "()V"), (1, .class_ 10), (1, u "java/lang/Object"), (85, u "clone"), (0, u "()Ljava/lang/Object;")] 26

def k0c0 : Code := { maxStack := 0, maxLocals := 1, code := object_method_1_code, exceptionTable := #[], attributes := #[] }
def k0m0 : Method := { name := "<init>", desc := "()V", sig := { parameters := [], returnType := none }, accessFlags := 1, code := some k0c0 }
def k0m1 : Method := { name := "clone", desc := "()Ljava/lang/Object;", sig := { parameters := [], returnType := some (.object "java/lang/Object") }, accessFlags := 260, code := none }
/-- java/lang/Object -/
def k0 : Class := { plain "java/lang/Object" none with
  accessFlags := 33
  interfaces := #[]
  cf := some (fileOf pool0 8 #[] #[{ accessFlags := 1, nameIndex := 5, descriptorIndex := 6, attributes := #[] }, { accessFlags := 260, nameIndex := 96, descriptorIndex := 97, attributes := #[] }] 33 0 #[] #[])
  fields := #[]
  methods := #[k0m0, k0m1]
  instanceTypes := #[]
  staticTypes := #[]
  resolved := Array.replicate 124 none
  statics := none }

def pool1 : Array CpInfo := pool [(2, .class_ 4), (1, u "java/lang/Object"), (0, u "<init>"), (0, u "()V"), (0, .integer 2147483647), (0, .class_ 9), (0, u "com/example/vanon/vanon/lattice/Lattice"), (0, .integer 2147483639), (0, .methodref 8 12), (0, .nameAndType 5 13), (0, u "([I)V"), (0, .methodref 8 15), (0, .nameAndType 16 17), (0, u "top"), (0, u "()[I"), (0, .class_ 19), (0, u "com/example/vanon/vanon/lattice/LatticeTopPinLaw"), (2, u "law"), (0, u "(IIII)Z")] 5

def k1m0 : Method := { name := "<init>", desc := "()V", sig := { parameters := [], returnType := none }, accessFlags := 1, code := none }
def k1c1 : Code := { maxStack := 3, maxLocals := 11, code := code, exceptionTable := #[], attributes := #[] }
def k1m1 : Method := { name := "law", desc := "(IIII)Z", sig := { parameters := [.int, .int, .int, .int], returnType := some .boolean }, accessFlags := 9, code := some k1c1 }
/-- com/example/vanon/vanon/lattice/LatticeTopPinLaw -/
def k1 : Class := { plain "com/example/vanon/vanon/lattice/LatticeTopPinLaw" (some 0) with
  accessFlags := 49
  interfaces := #[]
  cf := some (fileOf pool1 18 #[] #[{ accessFlags := 1, nameIndex := 5, descriptorIndex := 6, attributes := #[] }, { accessFlags := 9, nameIndex := 22, descriptorIndex := 23, attributes := #[] }] 49 2 #[] #[])
  fields := #[]
  methods := #[k1m0, k1m1]
  instanceTypes := #[]
  staticTypes := #[]
  resolved := Array.replicate 29 none
  statics := none }

def pool2 : Array CpInfo := pool [(3, .methodref 4 5), (0, .class_ 6), (0, .nameAndType 7 8), (0, u "java/lang/Object"), (0, u "<init>"), (0, u "()V"), (9, .class_ 19), (0, u "com/example/vanon/vanon/lattice/Lattice"), (0, .long 2147483639), (3, .methodref 25 26), (0, .class_ 27), (0, .nameAndType 28 29), (0, u "[I"), (0, u "clone"), (0, u "()Ljava/lang/Object;"), (0, .fieldref 18 31), (0, .nameAndType 32 27), (0, u "levelCounts"), (0, .fieldref 18 34), (0, .nameAndType 35 27), (0, u "strides"), (0, .fieldref 18 37), (0, .nameAndType 38 39), (0, u "size"), (0, u "I"), (4, u "MAX_SIZE"), (2, u "([I)V"), (8, u "()[I"), (0, u "top")] 23

def k2c0 : Code := { maxStack := 4, maxLocals := 8, code := prog_16_method_1_code, exceptionTable := #[], attributes := #[] }
def k2m0 : Method := { name := "<init>", desc := "([I)V", sig := { parameters := [(.array .int)], returnType := none }, accessFlags := 1, code := some k2c0 }
def k2c1 : Code := { maxStack := 4, maxLocals := 3, code := prog_16_method_6_code, exceptionTable := #[], attributes := #[] }
def k2m1 : Method := { name := "top", desc := "()[I", sig := { parameters := [], returnType := some (.array .int) }, accessFlags := 1, code := some k2c1 }
/-- com/example/vanon/vanon/lattice/Lattice -/
def k2 : Class := { plain "com/example/vanon/vanon/lattice/Lattice" (some 0) with
  accessFlags := 49
  interfaces := #[]
  cf := some (fileOf pool2 18 #[] #[{ accessFlags := 1, nameIndex := 7, descriptorIndex := 47, attributes := #[] }, { accessFlags := 1, nameIndex := 57, descriptorIndex := 56, attributes := #[] }] 49 4 #[] #[{ accessFlags := 25, nameIndex := 44, descriptorIndex := 39, attributes := #[] }, { accessFlags := 18, nameIndex := 32, descriptorIndex := 27, attributes := #[] }, { accessFlags := 18, nameIndex := 35, descriptorIndex := 27, attributes := #[] }, { accessFlags := 18, nameIndex := 38, descriptorIndex := 39, attributes := #[] }])
  fields := #[{ name := "MAX_SIZE", type := .int, accessFlags := 25, slot := 0, constantValue := 0 }, { name := "levelCounts", type := (.array .int), accessFlags := 18, slot := 0, constantValue := 0 }, { name := "strides", type := (.array .int), accessFlags := 18, slot := 1, constantValue := 0 }, { name := "size", type := .int, accessFlags := 18, slot := 2, constantValue := 0 }]
  methods := #[k2m0, k2m1]
  instanceTypes := #[(.array .int), (.array .int), .int]
  staticTypes := #[.int]
  resolved := Array.replicate 81 none
  statics := none }

def pool3 : Array CpInfo := pool [(1, .class_ 2), (0, u "java/lang/Cloneable"), (0, .class_ 4), (0, u "java/lang/Object")] 2

/-- java/lang/Cloneable -/
def k3 : Class := { plain "java/lang/Cloneable" (some 0) with
  accessFlags := 1537
  interfaces := #[]
  cf := some (fileOf pool3 1 #[] #[] 1537 3 #[] #[])
  fields := #[]
  methods := #[]
  instanceTypes := #[]
  staticTypes := #[]
  resolved := Array.replicate 7 none
  statics := none }

def pool4 : Array CpInfo := pool [(1, u "java/io/Serializable"), (0, .class_ 1), (0, u "java/lang/Object"), (0, .class_ 3)] 3

/-- java/io/Serializable -/
def k4 : Class := { plain "java/io/Serializable" (some 0) with
  accessFlags := 1537
  interfaces := #[]
  cf := some (fileOf pool4 2 #[] #[] 1537 4 #[] #[])
  fields := #[]
  methods := #[]
  instanceTypes := #[]
  staticTypes := #[]
  resolved := Array.replicate 8 none
  statics := none }

/-- the primitive byte -/
def k5 : Class := { plain "byte" none with kind := .primitive 'B', accessFlags := 0x411 }
/-- [B -/
def k6 : Class := { plain "[B" (some 0) with kind := .array 5 .byte, interfaces := #[3, 4], accessFlags := 1041 }

/-- the primitive int -/
def k7 : Class := { plain "int" none with kind := .primitive 'I', accessFlags := 0x411 }
/-- [I -/
def k8 : Class := { plain "[I" (some 0) with kind := .array 7 .int, interfaces := #[3, 4], accessFlags := 1041 }

def heap : Heap := #[]
def classes : Array Class := #[k0, k1, k2, k3, k4, k5, k6, k7, k8]
def interned : List (Array UInt16 × Addr) := []
def slotsUsed : Nat := 0
def theMethod : MethodId := ⟨1, 1⟩
def args0 : Array Value := #[.int 5, .int 1, .int 2, .int 3]
def aboutOver (below : List Frame) : State where
  vm := { classes := classes, interned := interned.toArray }
  heap := heap
  slotsUsed := slotsUsed
  threads := #[{ frames := .invoking theMethod args0 :: below }]
def below0 : List Frame := [.native { method := ⟨0, 0⟩, args := #[] }]
def about1 : State := aboutOver below0
def p0 : Program := .bare "" "" ""
def e0 : Env := launch0.env 0 0 0
theorem w_frames : about1.frames = Frame.invoking theMethod args0 :: below0 := rfl
set_option maxRecDepth 65536 in
theorem w_args : argsFit about1.vm theMethod args0 = true := by decide +kernel
set_option maxRecDepth 65536 in
theorem w_heap : heapFits about1 = true := by decide +kernel
set_option maxRecDepth 65536 in
theorem w_runnable : about1.curStatus? = some .runnable := by decide +kernel
set_option maxRecDepth 65536 in
theorem w_alone : about1.alone = true := by decide +kernel
set_option maxRecDepth 65536 in
theorem w_named : about1.methodNamed? x = some theMethod := by decide +kernel
set_option maxRecDepth 65536 in
theorem w_hears : about1.hears theMethod below0 = true := by decide +kernel
set_option maxRecDepth 65536 in
theorem w_ripe : about1.ripe theMethod args0 below0 = true := by decide +kernel
theorem w_running : about1.status = .running := rfl
set_option maxRecDepth 65536 in
theorem w_room : about1.hasRoom e0.platform room_1 = true :=
  launch0.hasRoom_least _ room_1 (by decide +kernel) (by decide +kernel) (by decide +kernel) (by decide +kernel) (by decide +kernel) (by decide +kernel)
theorem allAtoms_all (ts : List Jvm.Cond) (a : Array Jvm.Value) (st : Jvm.State) : (allAtoms ts).before a st = ts.all (fun c => c.before a st) := by
  induction ts with
  | nil => rfl
  | cons c t ih =>
    show (Jvm.Cond.and c (allAtoms t)).before a st = _
    rw [Jvm.Cond.before_and, ih, List.all_cons]
def words1 : List Jvm.Cond := Jvm.Cond.code x code maxLocals ret :: tables_1
/-- a 'code' word, met by the world's own term for the bytes: nothing is compared byte by byte -/
theorem code_word {y : MethodName} {bytes : ByteArray} {mx : Nat} {rt : Option FieldType} {a : Array Value} {s : State} {m : MethodId} {meth : Method} {c : Code} (h1 : s.methodNamed? y = some m) (h2 : s.vm.method? m = some meth) (h3 : meth.code = some c) (h4 : c.code = bytes)
    (h5 : (c.maxLocals == mx && c.exceptionTable.isEmpty && decide (c.maxStack ≤ mostOperands) && decide (meth.sig.returnType = rt) && !meth.locks && decide (parseMethodDescriptor y.desc = some meth.sig)) = true) : (Jvm.Cond.code y bytes mx rt).before a s = true := by
  simp only [Bool.and_eq_true, beq_iff_eq, Bool.not_eq_true', decide_eq_true_eq] at h5
  obtain ⟨⟨⟨⟨⟨g1, g2⟩, g3⟩, g4⟩, g5⟩, g6⟩ := h5
  simp [Cond.before, Cond.holds, Cond.value, h1, h2, h3, h4, g1, g2, g3, g4, g5, g6]
def isCode : Jvm.Cond → Bool
  | .code _ _ _ _ => true
  | _ => false
theorem all_split {L : List Jvm.Cond} {P : Jvm.Cond → Bool} (h1 : L.all (fun c => isCode c || P c) = true) (h2 : ∀ c ∈ L.filter isCode, P c = true) : L.all P = true := by
  refine List.all_eq_true.mpr fun c hc => ?_
  have h := List.all_eq_true.mp h1 c hc
  rcases Bool.eq_false_or_eq_true (isCode c) with hi | hi
  · exact h2 c (List.mem_filter.mpr ⟨hc, hi⟩)
  · simpa [hi] using h
set_option maxRecDepth 65536 in
theorem w_c0 : (Jvm.Cond.code x code maxLocals ret).before args0 about1 = true := code_word (m := ⟨1, 1⟩) (meth := k1m1) (c := k1c1) (by decide +kernel) rfl rfl rfl (by decide +kernel)
set_option maxRecDepth 65536 in
theorem w_c1 : (Jvm.Cond.code ({ cls := "com/example/vanon/vanon/lattice/Lattice", name := "<init>", desc := "([I)V" } : Jvm.MethodName) prog_16_method_1_code (8 : Nat) (Option.none : Option Jvm.ClassFile.FieldType)).before args0 about1 = true := code_word (m := ⟨2, 0⟩) (meth := k2m0) (c := k2c0) (by decide +kernel) rfl rfl rfl (by decide +kernel)
set_option maxRecDepth 65536 in
theorem w_c2 : (Jvm.Cond.code ({ cls := "java/lang/Object", name := "<init>", desc := "()V" } : Jvm.MethodName) object_method_1_code (1 : Nat) (Option.none : Option Jvm.ClassFile.FieldType)).before args0 about1 = true := code_word (m := ⟨0, 0⟩) (meth := k0m0) (c := k0c0) (by decide +kernel) rfl rfl rfl (by decide +kernel)
set_option maxRecDepth 65536 in
theorem w_c3 : (Jvm.Cond.code ({ cls := "com/example/vanon/vanon/lattice/Lattice", name := "top", desc := "()[I" } : Jvm.MethodName) prog_16_method_6_code (3 : Nat) (Option.some (Jvm.ClassFile.FieldType.array Jvm.ClassFile.FieldType.int))).before args0 about1 = true := code_word (m := ⟨2, 1⟩) (meth := k2m1) (c := k2c1) (by decide +kernel) rfl rfl rfl (by decide +kernel)
def codes1 : List Jvm.Cond := [Jvm.Cond.code x code maxLocals ret, Jvm.Cond.code ({ cls := "com/example/vanon/vanon/lattice/Lattice", name := "<init>", desc := "([I)V" } : Jvm.MethodName) prog_16_method_1_code (8 : Nat) (Option.none : Option Jvm.ClassFile.FieldType), Jvm.Cond.code ({ cls := "java/lang/Object", name := "<init>", desc := "()V" } : Jvm.MethodName) object_method_1_code (1 : Nat) (Option.none : Option Jvm.ClassFile.FieldType), Jvm.Cond.code ({ cls := "com/example/vanon/vanon/lattice/Lattice", name := "top", desc := "()[I" } : Jvm.MethodName) prog_16_method_6_code (3 : Nat) (Option.some (Jvm.ClassFile.FieldType.array Jvm.ClassFile.FieldType.int))]
set_option maxRecDepth 65536 in
theorem codes_eq : words1.filter isCode = codes1 := rfl
theorem w_codes : ∀ c ∈ words1.filter isCode, c.before args0 about1 = true := by
  rw [codes_eq]
  intro c hc
  simp only [codes1, List.mem_cons, List.not_mem_nil, or_false] at hc
  rcases hc with rfl | rfl | rfl | rfl
  · exact w_c0
  · exact w_c1
  · exact w_c2
  · exact w_c3
set_option maxRecDepth 65536 in
theorem w_t1 : (words1.take 24).all (fun c => isCode c || c.before args0 about1) = true := by decide +kernel
set_option maxRecDepth 65536 in
theorem w_t2 : (words1.drop 24).all (fun c => isCode c || c.before args0 about1) = true := by decide +kernel
theorem w_tables : (allAtoms (Jvm.Cond.code x code maxLocals ret :: tables_1)).before args0 about1 = true := by
  rw [allAtoms_all]
  show words1.all (fun c => c.before args0 about1) = true
  refine all_split ?_ w_codes
  rw [← List.take_append_drop 24 words1, List.all_append, w_t1, w_t2]
  rfl
set_option maxRecDepth 65536 in
theorem w_case : (Jvm.Cond.and given_1 narrow_1).before args0 about1 = true := by decide +kernel
theorem w_applies : (headSpec (Jvm.Cond.code x code maxLocals ret :: tables_1) room_1).applies x e0.platform about1 = true :=
  (Spec.applies_iff w_frames).mpr ⟨w_running, w_runnable, w_alone, w_named, w_hears, w_ripe, w_room, w_tables⟩
theorem atStart : AtStart classFile x code maxLocals ret World_1 tables_1 room_1 Calls_1 rest_1 Pre_1 launch0 p0 e0 about1 theMethod args0 below0 :=
  ⟨lists_1, trivial, launch0.admits_env _ _ _, launch0.least_env, fairChoices_fair.cas, fairChoices_fair.clock, w_frames, w_args, w_heap, w_applies, trivial, trivial, w_case⟩
end start1
theorem witness_1 : WitnessClaimed_1 := ⟨start1.p0, start1.e0, start1.about1, start1.theMethod, start1.args0, start1.below0, start1.atStart⟩
end Jvm.Pilot.@@N@@
