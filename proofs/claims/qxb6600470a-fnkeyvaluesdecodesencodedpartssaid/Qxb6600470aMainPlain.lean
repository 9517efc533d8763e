import Derived.Test.Qxb6600470aVals
import Derived.Test.Qxb6600470aBytes
namespace Go.Proofs.Qxb6600470a
open Go.RowKit
set_option linter.unusedVariables false

theorem sumTo_le (g : Nat → Nat) : ∀ (n i : Nat), i < n → g i ≤ sumTo g n
  | 0, i, h => by omega
  | n + 1, i, h => by
    by_cases e : i = n
    · subst e; simp [sumTo]
    · have := sumTo_le g n i (by omega)
      simp [sumTo]; omega

def partOf (ks : Nat → UInt8) (ns : Nat → Int) (ts : Nat → ByteArray) (ms : Nat → UInt8) (l1 l2 l3 i : Nat) : Part :=
  if ks i = 1 then ⟨ks i, atOr ns 0 l1 i, [], atOr ms 0 l3 i⟩ else ⟨ks i, 0, (atOr ts ⟨#[]⟩ l2 i).data.toList, atOr ms 0 l3 i⟩

def partsTo (f : Nat → Part) : Nat → List Part
  | 0 => []
  | k + 1 => partsTo f k ++ [f k]

theorem partsTo_len (f : Nat → Part) (k : Nat) : (partsTo f k).length = k := by
  induction k with
  | zero => rfl
  | succ k ih => simp [partsTo, ih]

theorem partsTo_mem (f : Nat → Part) (k : Nat) (p : Part) (h : p ∈ partsTo f k) : ∃ i, i < k ∧ p = f i := by
  induction k with
  | zero => simp [partsTo] at h
  | succ k ih =>
    simp only [partsTo, List.mem_append, List.mem_singleton] at h
    rcases h with h | h
    · obtain ⟨i, h1, h2⟩ := ih h; exact ⟨i, by omega, h2⟩
    · exact ⟨k, by omega, h⟩

theorem encAll_succ (f : Nat → Part) (k : Nat) : encAll (partsTo f (k + 1)) = encAll (partsTo f k) ++ encPart (f k) := by
  simp [partsTo, encAll_append, encAll]

theorem encPart_len (p : Part) (h : p.s.length ≤ 1048576) : (encPart p).length ≤ 2097161 := by
  unfold encPart
  have := esc_len p.s
  split <;> simp [be8_len] <;> omega

theorem encAll_len (f : Nat → Part) (k : Nat) (h : ∀ i, i < k → (f i).s.length ≤ 1048576) : (encAll (partsTo f k)).length ≤ k * 2097161 := by
  induction k with
  | zero => simp [partsTo, encAll]
  | succ k ih =>
    have := ih (fun i hi => h i (by omega))
    have h2 := encPart_len (f k) (h k (by omega))
    rw [encAll_succ, List.length_append]; omega

theorem valCells_len (ps : List Part) : (valCells ps).length = 3 * ps.length := by
  induction ps with
  | nil => rfl
  | cons p r ih => simp [valCells, ih]; omega

theorem valCells_at (f : Nat → Part) (k i : Nat) (h : i < k) :
    (valCells (partsTo f k))[3 * i]? = some (.int .u8 (f i).k.toNat) ∧ (valCells (partsTo f k))[3 * i + 1]? = some (.int .i64 (f i).n) ∧ (valCells (partsTo f k))[3 * i + 2]? = some (.string ⟨(f i).s.toArray⟩) := by
  induction k with
  | zero => omega
  | succ k ih =>
    have hl : (valCells (partsTo f k)).length = 3 * k := by rw [valCells_len, partsTo_len]
    simp only [partsTo, valCells_append]
    by_cases e : i < k
    · obtain ⟨h1, h2, h3⟩ := ih e
      rw [List.getElem?_append_left (by omega), List.getElem?_append_left (by omega), List.getElem?_append_left (by omega)]
      exact ⟨h1, h2, h3⟩
    · have : i = k := by omega
      subst this
      rw [List.getElem?_append_right (by omega), List.getElem?_append_right (by omega), List.getElem?_append_right (by omega), hl]
      have e1 : 3 * i + 1 - 3 * i = 1 := by omega
      have e2 : 3 * i + 2 - 3 * i = 2 := by omega
      rw [Nat.sub_self, e1, e2]
      exact ⟨rfl, rfl, rfl⟩

section
variable (ks : Nat → UInt8) (ns : Nat → Int) (ts : Nat → ByteArray) (ms : Nat → UInt8) (l1 l2 l3 : Nat)
theorem partOf_one (i : Nat) (h : ks i = 1) : partOf ks ns ts ms l1 l2 l3 i = ⟨ks i, atOr ns 0 l1 i, [], atOr ms 0 l3 i⟩ := by simp [partOf, h]
theorem partOf_other (i : Nat) (h : ks i ≠ 1) : partOf ks ns ts ms l1 l2 l3 i = ⟨ks i, 0, (atOr ts ⟨#[]⟩ l2 i).data.toList, atOr ms 0 l3 i⟩ := by simp [partOf, h]

theorem partOf_small (h : ∀ i, i < l2 → (ts i).size ≤ 1048576) (i : Nat) : (partOf ks ns ts ms l1 l2 l3 i).s.length ≤ 1048576 := by
  unfold partOf
  split
  · simp
  · unfold atOr
    split
    · simp only; rw [← Lib.size_eq]; exact h i ‹_›
    · simp

theorem partOf_ok (hn : ∀ i, i < l1 → -(2 ^ 63) ≤ ns i ∧ ns i < 2 ^ 63) (hm : ∀ i, i < l3 → ms i ≠ 255) (i : Nat) : (partOf ks ns ts ms l1 l2 l3 i).ok := by
  have h1 : atOr ms 0 l3 i ≠ 255 := by
    unfold atOr; split
    · exact hm i ‹_›
    · decide
  have h2 : -(2 ^ 63) ≤ atOr ns 0 l1 i ∧ atOr ns 0 l1 i < 2 ^ 63 := by
    unfold atOr; split
    · exact hn i ‹_›
    · decide
  by_cases h : ks i = 1
  · rw [partOf_one _ _ _ _ _ _ _ _ h]; exact ⟨h1, fun _ => ⟨rfl, h2⟩, fun hk => absurd h hk⟩
  · rw [partOf_other _ _ _ _ _ _ _ _ h]; exact ⟨h1, fun hk => absurd hk h, fun _ => rfl⟩
end

theorem atOr_u8 (ms : Nat → UInt8) (l i : Nat) : atOr (fun i => ((ms i).toNat : Int)) 0 l i = ((atOr ms 0 l i).toNat : Int) := by
  unfold atOr; split <;> rfl

theorem partTerm_u8 (B : Nat) (a : Option Addr) (len cap : Nat) (ms : Nat → UInt8) (i : Nat) (w : World) (hl : len ≤ 1048576) (hi : i ≤ 1048576)
    (hc : Shows B w a len (fun i => .int .u8 (ms i).toNat)) :
    Calls Try.prog 13 #[.slice a len cap, .int .i64 i] w fun e w' => e = .returned (.int .u8 (atOr ms 0 len i).toNat) ∧ w = w' := by
  have := partTerm_any B a len cap (fun i => ((ms i).toNat : Int)) i w hl hi hc
  rw [atOr_u8] at this
  exact this

theorem info5 : (Try.prog.info? 5).map (fun i => (i.zero, i.size, i.bytes)) = some (some (.int .u8 0), 1, 1) := by kernel_rfl

theorem fold_push (l : List UInt8) : ∀ (acc : ByteArray), (l.map (fun c => (c.toNat : Int))).foldl (fun r n => r.push (UInt8.ofNat n.toNat)) acc = ⟨acc.data ++ l.toArray⟩ := by
  induction l with
  | nil => intro acc; simp
  | cons c l ih =>
    intro acc
    simp only [List.map_cons, List.foldl_cons, Int.toNat_natCast]
    rw [ih]
    simp [ByteArray.push, UInt8.ofNat_toNat]

end Go.Proofs.Qxb6600470a
