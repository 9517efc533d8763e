import Derived.Lib.Bytealg
import Derived.Lib.UnsafeStr
namespace Go.Proofs.Qxb6600470a
set_option linter.unusedVariables false

structure Part where
  k : UInt8
  n : Int
  s : List UInt8
  t : UInt8

def esc : List UInt8 → List UInt8
  | [] => []
  | c :: r => if c = 0 then 0 :: 255 :: esc r else c :: esc r

def byt (x : Nat) : UInt8 := UInt8.ofNat (x % 256)
theorem byt_toNat (x : Nat) : (byt x).toNat = x % 256 := by
  unfold byt
  rw [UInt8.toNat_ofNat']
  omega

def be8 (u : Nat) : List UInt8 :=
  [byt (u / 2 ^ 56), byt (u / 2 ^ 48), byt (u / 2 ^ 40), byt (u / 2 ^ 32), byt (u / 2 ^ 24), byt (u / 2 ^ 16), byt (u / 2 ^ 8), byt u]

def ubig (n : Int) : Nat := (n + 2 ^ 63).toNat

def encPart (p : Part) : List UInt8 := p.k :: (if p.k = 1 then be8 (ubig p.n) else esc p.s ++ [0, p.t])
def encAll : List Part → List UInt8
  | [] => []
  | p :: r => encPart p ++ encAll r

theorem encAll_append (a b : List Part) : encAll (a ++ b) = encAll a ++ encAll b := by
  induction a with
  | nil => rfl
  | cons p a ih => simp [encAll, ih, List.append_assoc]

theorem esc_append (a b : List UInt8) : esc (a ++ b) = esc a ++ esc b := by
  induction a with
  | nil => rfl
  | cons c a ih => by_cases h : c = 0 <;> simp [esc, h, ih]

theorem esc_len (a : List UInt8) : (esc a).length ≤ 2 * a.length := by
  induction a with
  | nil => simp [esc]
  | cons c a ih => by_cases h : c = 0 <;> simp [esc, h] <;> omega

theorem esc_plain (a : List UInt8) (h : ∀ c ∈ a, c ≠ 0) : esc a = a := by
  induction a with
  | nil => rfl
  | cons c a ih =>
    have h0 : c ≠ 0 := h c (by simp)
    simp [esc, h0, ih (fun x hx => h x (by simp [hx]))]

/-- A text up to its first nought. -/
theorem cut0 (l : List UInt8) : ∃ pre, (∀ c ∈ pre, c ≠ 0) ∧ (l = pre ∨ ∃ r, l = pre ++ 0 :: r) := by
  induction l with
  | nil => exact ⟨[], by simp, .inl rfl⟩
  | cons c l ih =>
    by_cases h : c = 0
    · exact ⟨[], by simp, .inr ⟨l, by simp [h]⟩⟩
    · obtain ⟨pre, h1, h2⟩ := ih
      refine ⟨c :: pre, ?_, ?_⟩
      · intro x hx
        rcases List.mem_cons.1 hx with rfl | hx
        · exact h
        · exact h1 x hx
      · rcases h2 with rfl | ⟨r, rfl⟩
        · exact .inl rfl
        · exact .inr ⟨r, rfl⟩

theorem index0 (pre r : List UInt8) (h : ∀ c ∈ pre, c ≠ 0) : Lib.indexByte (pre ++ 0 :: r) 0 = pre.length := by
  induction pre with
  | nil => rfl
  | cons c pre ih =>
    have h0 : c ≠ 0 := h c (by simp)
    have ih := ih (fun x hx => h x (by simp [hx]))
    have hb : (c == 0) = false := by simpa using h0
    rw [List.cons_append, Lib.indexByte, ih, hb]
    have : ((pre.length : Int) == -1) = false := by
      simp only [beq_eq_false_iff_ne]; omega
    simp [this]

def num (l : List UInt8) : Nat := l.foldl (fun a c => a * 256 + c.toNat) 0

theorem num_snoc (l : List UInt8) (c : UInt8) : num (l ++ [c]) = num l * 256 + c.toNat := by simp [num]

theorem num_lt (l : List UInt8) : num l < 256 ^ l.length := by
  have : ∀ (l r : List UInt8), r.length = l.length → r = l.reverse → num l < 256 ^ l.length := by
    intro l r
    induction r generalizing l with
    | nil => intro h1 h2; have e : l = [] := List.eq_nil_of_length_eq_zero h1.symm; rw [e]; simp [num]
    | cons c r ih =>
      intro h1 h2
      have e : l = r.reverse ++ [c] := by rw [← List.reverse_reverse l, ← h2]; simp
      subst e
      rw [num_snoc]
      have := ih r.reverse (by simp) (by simp)
      have hc := c.toNat_lt
      simp only [List.length_append, List.length_reverse, List.length_cons, List.length_nil] at this ⊢
      rw [Nat.pow_succ]
      omega
  exact this l l.reverse (by simp) rfl

theorem num_be8 (u : Nat) (h : u < 2 ^ 64) : num (be8 u) = u := by
  simp only [num, be8, List.foldl_cons, List.foldl_nil, byt_toNat]
  omega

theorem be8_len (u : Nat) : (be8 u).length = 8 := rfl

theorem be8_step (u m : Nat) (h : m < 8) : (be8 u).take (m + 1) = (be8 u).take m ++ [byt (u / 2 ^ (56 - 8 * m))] := by
  match m, h with
  | 0, _ => rfl
  | 1, _ => rfl
  | 2, _ => rfl
  | 3, _ => rfl
  | 4, _ => rfl
  | 5, _ => rfl
  | 6, _ => rfl
  | 7, _ => simp [be8]

theorem ubig_lt (n : Int) (h1 : -(2 ^ 63) ≤ n) (h2 : n < 2 ^ 63) : ubig n < 2 ^ 64 := by unfold ubig; omega

end Go.Proofs.Qxb6600470a
