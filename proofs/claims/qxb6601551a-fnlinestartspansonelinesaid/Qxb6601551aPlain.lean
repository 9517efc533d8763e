import Derived.Lib.Bytealg
import Derived.Lib.Bytes
import Derived.Lib.UnsafeStr
namespace Go.Proofs.Qxb6601551a
set_option linter.unusedVariables false

/-- A text up to its first newline. -/
theorem cutNl (l : List UInt8) : (∀ c ∈ l, c ≠ 10) ∨ ∃ pre post, l = pre ++ 10 :: post ∧ ∀ c ∈ pre, c ≠ 10 := by
  induction l with
  | nil => left; simp
  | cons c l ih =>
    by_cases h : c = 10
    · right; exact ⟨[], l, by rw [h]; rfl, by simp⟩
    · rcases ih with h1 | ⟨pre, post, h1, h2⟩
      · left
        intro x hx
        rcases List.mem_cons.1 hx with rfl | hx
        · exact h
        · exact h1 x hx
      · right
        refine ⟨c :: pre, post, by rw [h1]; rfl, ?_⟩
        intro x hx
        rcases List.mem_cons.1 hx with rfl | hx
        · exact h
        · exact h2 x hx

theorem idx_none (l : List UInt8) (h : ∀ c ∈ l, c ≠ 10) : Lib.indexByte l 10 = -1 := by
  induction l with
  | nil => rfl
  | cons c l ih =>
    have hc : (c == 10) = false := by simpa using h c (by simp)
    rw [Lib.indexByte, hc, ih (fun x hx => h x (by simp [hx]))]
    rfl
theorem idx_some (pre post : List UInt8) (h : ∀ c ∈ pre, c ≠ 10) : Lib.indexByte (pre ++ 10 :: post) 10 = (pre.length : Nat) := by
  induction pre with
  | nil => rfl
  | cons c l ih =>
    have hc : (c == 10) = false := by simpa using h c (by simp)
    rw [List.cons_append, Lib.indexByte, hc, ih (fun x hx => h x (by simp [hx]))]
    have : ((l.length : Int) == -1) = false := by simp only [beq_eq_false_iff_ne]; omega
    simp [this]

/-- Where line k begins. -/
def ls (l : List UInt8) : Nat → Nat
  | 0 => 0
  | k + 1 => if Lib.indexByte (l.drop (ls l k)) 10 = -1 then l.length else ls l k + (Lib.indexByte (l.drop (ls l k)) 10).toNat + 1

theorem ls_step (l : List UInt8) (k : Nat) : ((∀ c ∈ l.drop (ls l k), c ≠ 10) ∧ Lib.indexByte (l.drop (ls l k)) 10 = -1 ∧ ls l (k + 1) = l.length) ∨
    ∃ pre post, l.drop (ls l k) = pre ++ 10 :: post ∧ (∀ c ∈ pre, c ≠ 10) ∧ Lib.indexByte (l.drop (ls l k)) 10 = (pre.length : Nat) ∧ ls l (k + 1) = ls l k + pre.length + 1 := by
  rcases cutNl (l.drop (ls l k)) with h | ⟨pre, post, h1, h2⟩
  · left
    have hi := idx_none _ h
    exact ⟨h, hi, by rw [ls, if_pos hi]⟩
  · right
    have hi := idx_some pre post h2
    rw [← h1] at hi
    refine ⟨pre, post, h1, h2, hi, ?_⟩
    rw [ls, hi, if_neg (by omega)]
    omega

theorem ls_le (l : List UInt8) (k : Nat) : ls l k ≤ l.length := by
  induction k with
  | zero => exact Nat.zero_le _
  | succ k ih =>
    rcases ls_step l k with ⟨_, _, h⟩ | ⟨pre, post, h1, _, _, h⟩
    · rw [h]; exact Nat.le_refl _
    · have := congrArg List.length h1
      simp only [List.length_drop, List.length_append, List.length_cons] at this
      rw [h]; omega

theorem ls_end (l : List UInt8) (k : Nat) (h : ls l k = l.length) : ∀ i, ls l (k + i) = l.length
  | 0 => h
  | i + 1 => by
    have ih := ls_end l k h i
    rw [← Nat.add_assoc, ls, ih, List.drop_of_length_le (Nat.le_refl _)]
    rfl

def cnt (l : List UInt8) : Nat := l.countP (· == 10)
theorem cnt_append (a b : List UInt8) : cnt (a ++ b) = cnt a + cnt b := by simp [cnt]
theorem cnt_none (l : List UInt8) (h : ∀ c ∈ l, c ≠ 10) : cnt l = 0 := by
  unfold cnt
  rw [List.countP_eq_zero]
  intro c hc
  simpa using h c hc
theorem cnt_take_succ (l : List UInt8) (i : Nat) (h : i < l.length) : cnt (l.take (i + 1)) = cnt (l.take i) + if l.getD i 0 = 10 then 1 else 0 := by
  rw [List.take_succ_eq_append_getElem h, cnt_append]
  have e : l.getD i 0 = l[i] := by simp [List.getD_eq_getElem?_getD, h]
  rw [e]
  by_cases hc : l[i] = 10 <;> simp [cnt, hc]
theorem cnt_mono (l : List UInt8) (a b : Nat) (h : a ≤ b) : cnt (l.take a) ≤ cnt (l.take b) := by
  have : l.take b = l.take a ++ (l.take b).drop a := by
    conv => lhs; rw [← List.take_append_drop a (l.take b)]
    rw [List.take_take, Nat.min_eq_left h]
  rw [this, cnt_append]; omega

theorem take_cut (l : List UInt8) (a : Nat) (pre post : List UInt8) (h1 : l.drop a = pre ++ 10 :: post) (ha : a ≤ l.length) :
    l.take (a + pre.length + 1) = l.take a ++ (pre ++ [10]) := by
  have e : l = l.take a ++ (pre ++ 10 :: post) := by rw [← h1, List.take_append_drop]
  have hlen : (l.take a).length = a := by rw [List.length_take]; omega
  generalize l.take a = t at e hlen ⊢
  rw [e, List.take_append, hlen, List.take_of_length_le (by omega)]
  congr 1
  have : a + pre.length + 1 - a = pre.length + 1 := by omega
  rw [this, List.take_append, List.take_of_length_le (Nat.le_succ _)]
  simp

theorem ls_inv (l : List UInt8) (k : Nat) : (cnt (l.take (ls l k)) = k ∧ (0 < k → 0 < ls l k ∧ l.getD (ls l k - 1) 0 = 10)) ∨ (ls l k = l.length ∧ cnt l < k) := by
  induction k with
  | zero => left; exact ⟨by simp [ls, cnt], fun h => by omega⟩
  | succ k ih =>
    rcases ls_step l k with ⟨h1, _, h2⟩ | ⟨pre, post, h1, h2, _, h3⟩
    · right
      refine ⟨h2, ?_⟩
      rcases ih with ⟨i1, _⟩ | ⟨_, i2⟩
      · have : cnt l = cnt (l.take (ls l k)) + cnt (l.drop (ls l k)) := by rw [← cnt_append, List.take_append_drop]
        rw [cnt_none _ h1] at this
        omega
      · omega
    · rcases ih with ⟨i1, _⟩ | ⟨i1, _⟩
      · left
        have et := take_cut l (ls l k) pre post h1 (ls_le l k)
        rw [h3, et, cnt_append, cnt_append, cnt_none _ h2]
        refine ⟨by simp [cnt] at i1 ⊢; omega, fun _ => ⟨by omega, ?_⟩⟩
        have e1 : ls l k + pre.length + 1 - 1 = ls l k + pre.length := by omega
        rw [e1, List.getD_eq_getElem?_getD]
        have : l[ls l k + pre.length]? = (l.drop (ls l k))[pre.length]? := by rw [List.getElem?_drop]
        rw [this, h1]
        simp
      · rw [i1, List.drop_of_length_le (Nat.le_refl _)] at h1
        simp at h1

theorem ls_hit (l : List UInt8) (i k : Nat) (hi : i < l.length) (h10 : l.getD i 0 = 10) (hc : cnt (l.take (i + 1)) = k) : ls l k = i + 1 := by
  have hk : 0 < k := by
    have := cnt_take_succ l i hi
    rw [if_pos h10] at this
    omega
  have hci : cnt (l.take i) + 1 = k := by
    have := cnt_take_succ l i hi
    rw [if_pos h10] at this
    omega
  rcases ls_inv l k with ⟨h1, h2⟩ | ⟨h1, h2⟩
  · obtain ⟨hp, hl⟩ := h2 hk
    have hle := ls_le l k
    rcases Nat.lt_trichotomy (ls l k) (i + 1) with h | h | h
    · have := cnt_mono l (ls l k) i (by omega)
      omega
    · exact h
    · have h3 := cnt_take_succ l (ls l k - 1) (by omega)
      rw [if_pos hl] at h3
      have e : ls l k - 1 + 1 = ls l k := by omega
      rw [e] at h3
      have := cnt_mono l (i + 1) (ls l k - 1) (by omega)
      omega
  · have := cnt_mono l (i + 1) l.length (by omega)
    rw [List.take_length] at this
    omega

theorem ls_miss (l : List UInt8) (k : Nat) (hc : cnt l < k) : ls l k = l.length := by
  rcases ls_inv l k with ⟨h1, _⟩ | ⟨h1, _⟩
  · have := cnt_mono l (ls l k) l.length (ls_le l k)
    rw [List.take_length] at this
    omega
  · exact h1

theorem getD_drop (l : List UInt8) (a i : Nat) (h : a ≤ i) : l.getD i 0 = (l.drop a).getD (i - a) 0 := by
  rw [List.getD_eq_getElem?_getD, List.getD_eq_getElem?_getD, List.getElem?_drop]
  congr 2; congr 1; omega

/-- What the second law asks of two line starts, one behind the other. -/
theorem ls_spans (l : List UInt8) (k : Nat) :
    ls l k ≤ ls l (k + 1) ∧ ls l (k + 1) ≤ l.length ∧ (0 < ls l k → ls l k < l.length → l.getD (ls l k - 1) 0 = 10) ∧ (ls l k < l.length → ls l k < ls l (k + 1)) ∧
      (∀ i, ls l k ≤ i → i + 1 < ls l (k + 1) → l.getD i 0 ≠ 10) ∧ (ls l k < ls l (k + 1) → ls l (k + 1) < l.length → l.getD (ls l (k + 1) - 1) 0 = 10) := by
  have hle := ls_le l k
  have hle1 := ls_le l (k + 1)
  refine ⟨?_, hle1, fun h1 h2 => ?_, fun h => ?_, fun i h1 h2 => ?_, fun h1 h2 => ?_⟩
  · rcases ls_step l k with ⟨_, _, h⟩ | ⟨pre, post, _, _, _, h⟩ <;> omega
  · rcases ls_inv l k with ⟨_, h3⟩ | ⟨h3, _⟩
    · cases k with
      | zero => simp [ls] at h1
      | succ k => exact (h3 (by omega)).2
    · omega
  · rcases ls_step l k with ⟨_, _, h⟩ | ⟨pre, post, _, _, _, h⟩ <;> omega
  · rcases ls_step l k with ⟨h3, _, h4⟩ | ⟨pre, post, h3, h4, _, h5⟩
    · have hi : i < l.length := by omega
      rw [getD_drop l _ i h1]
      refine h3 _ ?_
      have : i - ls l k < (l.drop (ls l k)).length := by rw [List.length_drop]; omega
      rw [List.getD_eq_getElem?_getD, List.getElem?_eq_getElem this]
      exact List.getElem_mem _
    · rw [getD_drop l _ i h1, h3]
      refine h4 _ ?_
      have : i - ls l k < pre.length := by omega
      rw [List.getD_eq_getElem?_getD, List.getElem?_append_left this, List.getElem?_eq_getElem this]
      exact List.getElem_mem _
  · rcases ls_inv l (k + 1) with ⟨_, h3⟩ | ⟨h3, _⟩
    · exact (h3 (by omega)).2
    · omega

end Go.Proofs.Qxb6601551a
