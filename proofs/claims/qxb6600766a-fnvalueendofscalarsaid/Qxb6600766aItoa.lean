import Derived.Test.Qxb6600766aJoin
namespace Go.Proofs.Qxb6600766a
open Go.RowKit
set_option linter.unusedVariables false

/-- A byte that neither ends a scalar nor opens a string, an object or an array. -/
def good (c : UInt8) : Bool := !isSep c && (c != 34) && (c != 123) && (c != 91)
def allGood (l : List UInt8) : Prop := ∀ c ∈ l, good c = true
theorem allGood_append {a b : List UInt8} (ha : allGood a) (hb : allGood b) : allGood (a ++ b) := by
  intro c hc
  rcases List.mem_append.1 hc with h | h
  · exact ha c h
  · exact hb c h

def dig (U : Int) : UInt8 := UInt8.ofNat (48 + U % 10).toNat
theorem dig_toNat (U : Int) : ((dig U).toNat : Int) = 48 + U % 10 := by
  unfold dig; rw [UInt8.toNat_ofNat']; omega
theorem good_range (c : UInt8) (h1 : 45 ≤ c.toNat) (h2 : c.toNat ≤ 57) : good c = true := by
  have e1 : isSep c = false := by
    unfold isSep
    simp only [Bool.or_eq_false_iff, beq_eq_false_iff_ne]
    omega
  have n1 : c ≠ 34 := fun h => by rw [h] at h1; exact absurd h1 (by decide)
  have n2 : c ≠ 123 := fun h => by rw [h] at h2; exact absurd h2 (by decide)
  have n3 : c ≠ 91 := fun h => by rw [h] at h2; exact absurd h2 (by decide)
  simp [good, e1, n1, n2, n3]
theorem good_dig (U : Int) : good (dig U) = true := by
  have := dig_toNat U
  exact good_range _ (by omega) (by omega)

/-- The buffer's block: twenty cells, from place i on good bytes. -/
def Buf (B i : Nat) (w : World) : Prop :=
  ∃ cur : Array Value, w.heap[B]? = some (.cells cur 44 (0, 0)) ∧ cur.size = 20 ∧ ∀ j, i ≤ j → j < 20 → ∃ c : UInt8, good c = true ∧ cur[j]? = some (.int .u8 c.toNat)

theorem Buf.cell {B i : Nat} {w : World} (h : Buf B i w) (j : Nat) (hj : j < 20) : (∃ v, w.cell? ⟨B, j, none⟩ = some v) ∧ w.frozen? ⟨B, j, none⟩ = false := by
  obtain ⟨cur, h1, h2, _⟩ := h
  constructor
  · exact ⟨cur[j]'(by omega), by simp [World.cell?, h1, show j < cur.size by omega]⟩
  · simp [World.frozen?, h1]

theorem Buf.put {B k : Nat} {w : World} (h : Buf B (k + 1) w) (hk : k < 20) (U : Int) : Buf B k (w.setCell ⟨B, k, none⟩ (.int .u8 (48 + U % 10))) := by
  obtain ⟨cur, h1, h2, h3⟩ := h
  refine ⟨cur.setIfInBounds k (.int .u8 (48 + U % 10)), ?_, by simpa using h2, ?_⟩
  · simp [World.setCell, Array.getElem?_modify, h1]
  · intro j hj1 hj2
    by_cases e : j = k
    · subst e
      refine ⟨dig U, good_dig U, ?_⟩
      rw [dig_toNat]
      simp [show j < cur.size by omega]
    · obtain ⟨c, hc1, hc2⟩ := h3 j (by omega) hj2
      exact ⟨c, hc1, by rw [Array.getElem?_setIfInBounds_ne (by omega)]; exact hc2⟩

theorem Buf.bytes {B i : Nat} {w : World} (h : Buf B i w) : ∀ n, i + n ≤ 20 → ∃ l : List UInt8, l.length = n ∧ allGood l ∧ ∀ j u, (Lib.byteCells l)[j]? = some u → w.cell? ⟨B, i + j, none⟩ = some u := by
  obtain ⟨cur, h1, h2, h3⟩ := h
  intro n
  induction n with
  | zero => intro _; exact ⟨[], rfl, fun c hc => by simp at hc, fun j u hj => by simp [Lib.byteCells] at hj⟩
  | succ n ih =>
    intro hn
    obtain ⟨l, hl, hg, hc⟩ := ih (by omega)
    obtain ⟨c, c1, c2⟩ := h3 (i + n) (by omega) (by omega)
    refine ⟨l ++ [c], by simp [hl], allGood_append hg (fun x hx => by simp at hx; rw [hx]; exact c1), fun j u hj => ?_⟩
    rw [Lib.byteCells_append] at hj
    by_cases e : j < l.length
    · rw [List.getElem?_append_left (by rw [Lib.byteCells_length]; exact e)] at hj
      exact hc j u hj
    · rw [List.getElem?_append_right (by rw [Lib.byteCells_length]; omega), Lib.byteCells_length] at hj
      have : j = n := by
        have := (List.getElem?_eq_some_iff.1 hj).1
        rw [Lib.byteCells_length] at this
        simp at this
        omega
      subst this
      rw [hl, Nat.sub_self] at hj
      simp [Lib.byteCells] at hj
      subst hj
      simp [World.cell?, h1, c2]

theorem pow_step (U : Int) (k : Nat) (h0 : 0 ≤ U) (h : U < 10 ^ (k + 1)) : U / 10 < 10 ^ k := by
  rw [Int.pow_succ] at h
  omega

theorem len44 : Try.prog.arrayLen 44 = 20 := by kernel_rfl
theorem elem44 : Try.prog.elem 44 = 5 := by kernel_rfl
theorem slice44 (B k : Nat) (hk : k ≤ 18) (W : World) :
    (Instr.sliceAt 44 (.pointer (some ⟨B, 0, none⟩)) (some (.int .i64 ((k : Int) + 1))) none none).run Try.prog W = .ok (.slice (some ⟨B, k + 1, none⟩) (19 - k) (19 - k)) W := by
  rw [run_sliceAt_array_l W 44 ⟨B, 0, none⟩ (by rw [len44, elem44]; exact Try.underlying44) .i64 ((k : Int) + 1) (by omega) (by rw [len44]; omega)]
  rw [elem44, Try.sizeOf5, len44]
  have e : ((k : Int) + 1).toNat = k + 1 := by omega
  have e2 : 20 - (k + 1) = 19 - k := by omega
  simp only [Result.andThen, slicedAt, e, e2, Nat.mul_one]
  rw [if_neg (by omega)]
  simp [Addr.add]

def ItoaPost (w : World) (e : Ending) (w' : World) : Prop :=
  ∃ v l, e = .returned v ∧ w'.ownsRow w.heap.size 5 1 v l.length (Lib.byteCells l) ∧ Below w.heap.size w w' ∧ allGood l ∧ l ≠ [] ∧ l.length ≤ 30

set_option maxHeartbeats 1000000 in
theorem itoa_pos (n : Int) (w : World) (h1 : 0 ≤ n) (h2 : n ≤ 9223372036854775807) :
    Calls Try.prog 27 #[.int .i64 n] w (ItoaPost w) := by
  obtain ⟨i0, hi, hz0, hz1, hz2⟩ := info_parts inf5
  go_enter Try.func27, Try.ntmps27
  go_wp2
  go_loopw [4, 6] (fun u i wr => ∃ (k : Nat) (U : Int), k ≤ 18 ∧ i = .int .i64 ((k : Int) + 1) ∧ u = .int .u64 U ∧ 0 ≤ U ∧ U ≤ 9223372036854775807 ∧ Hid (U < 10 ^ k) ∧ Buf w.heap.size (k + 1) wr ∧ Below w.heap.size w wr) (fun _ i _ => (intOf i).toNat)
  case atStart =>
    refine ⟨18, _, by omega, rfl, rfl, by omega, by omega, by show _ < _; omega, ?_, (Below.refl _ _).alloc (Nat.le_refl _) _⟩
    refine ⟨_, heap_alloc_new w _, rfl, fun j hj1 hj2 => ?_⟩
    obtain rfl : j = 19 := by omega
    exact ⟨dig n, good_dig n, by rw [dig_toNat]; rfl⟩
  case round =>
    obtain ⟨k, U, hk, rfl, rfl, hU0, hU1, hUk, hbuf, hbel⟩ := hrel
    have HBuf : Hid (Buf w.heap.size (k + 1) wr) := hbuf
    by_cases hU : U = 0
    · subst hU
      clear hUk hbuf
      have hwz := hbel.size
      go_wp2_with (at_make; go_must (refine wpList_make_own _ rfl _ _ 22 rfl w.heap.size 5 i0 (.int .u8 0) 1 Try.underlying22 hi hz0 hz1 .i64 .i64 _ 26 rfl rfl rfl ?a1 ?a2 ?a3 ?_))
      case a1 => rw [hz2]; omega
      case a2 => unfold maxLen; omega
      case a3 => exact hwz
      intro w1 hown1 hgrow1
      have hbel1 : Below wr.heap.size wr w1 := (Below.refl _ wr).grown hgrow1 (Nat.le_refl _) (fun k hk => by cases hk)
      obtain ⟨l, hll, hlg, hlc⟩ := HBuf.out.bytes (19 - k) (by omega)
      clear hgrow1
      have hsl := slice44 w.heap.size k hk
      go_wp2_with (at_builtin; go_must (refine wpList_append_own _ rfl _ _ 22 rfl w.heap.size 5 i0 (.int .u8 0) 1 1 Try.underlying22 hi hz0 hz1 hz2 rfl (by decide) _ 0 [] rfl hown1 ⟨w.heap.size, k + 1, none⟩ (19 - k) (19 - k) (Lib.byteCells l) rfl ?b1 ?b2 ?b3 ?b4 ?b5 ?b6 ?_))
      case b1 => rw [Lib.byteCells_length]; omega
      case b2 =>
        intro j u hj
        rw [Go.WideShapes.add_plain]
        exact cell_later hbel1 (hlc j u hj)
      case b3 => exact byteCells_one l
      case b4 => unfold maxLen; omega
      case b5 => omega
      case b6 => have := hbel1.size; omega
      intro v' w2 hown2 hgrow2 _
      have hb2 : Below w.heap.size w w2 := (hbel.trans (hbel1.mono hwz)).grown hgrow2 (by have := hbel1.size; omega) (fun k hk => by cases hk; exact hwz)
      have HF : Hid (w2.ownsRow w.heap.size 5 1 v' l.length (Lib.byteCells l) ∧ Below w.heap.size w w2) := ⟨by rw [hll]; exact hown2, hb2⟩
      clear hown2 hgrow2 hb2 hown1 hbel1 hsl
      go_wp2
      go_ret
      exact ⟨v', l, rfl, HF.out.1, HF.out.2, hlg, fun e => by rw [e] at hll; simp at hll; omega, by omega⟩
    · obtain ⟨k', rfl⟩ : ∃ k', k = k' + 1 := by
        cases k with
        | zero => have := hUk.out; simp at this; omega
        | succ k' => exact ⟨k', rfl⟩
      have hne : (U != 0) = true := by simpa using hU
      obtain ⟨⟨v, hv⟩, hf⟩ := hbuf.cell (k' + 1) (by omega)
      have HP : Hid (U / 10 < 10 ^ k') := pow_step U k' hU0 hUk.out
      clear hbuf hUk
      have HB2 : Hid (Buf w.heap.size (k' + 1) (wr.setCell ⟨w.heap.size, k' + 1, none⟩ (.int .u8 (48 + U % 10)))) := HBuf.out.put (by omega) U
      have HB3 : Hid (Below w.heap.size w (wr.setCell ⟨w.heap.size, k' + 1, none⟩ (.int .u8 (48 + U % 10)))) := hbel.setCell (Nat.le_refl _) _
      go_wp2
      go_roundw
      case rel => exact ⟨k', _, by omega, rfl, rfl, by omega, by omega, HP, HB2.out, HB3.out⟩
      case measure => simp [intOf]; omega

set_option maxHeartbeats 1000000 in
theorem itoa_neg (n : Int) (w : World) (h1 : n < 0) (h2 : -9223372036854775808 ≤ n) :
    Calls Try.prog 27 #[.int .i64 n] w (ItoaPost w) := by
  obtain ⟨i0, hi, hz0, hz1, hz2⟩ := info_parts inf5
  go_enter Try.func27, Try.ntmps27
  go_wp2
  go_loopw [4, 6] (fun u i wr => ∃ (k : Nat) (U : Int), k ≤ 18 ∧ i = .int .i64 ((k : Int) + 1) ∧ u = .int .u64 U ∧ 0 ≤ U ∧ U ≤ 9223372036854775807 ∧ Hid (U < 10 ^ k) ∧ Buf w.heap.size (k + 1) wr ∧ Below w.heap.size w wr) (fun _ i _ => (intOf i).toNat)
  case atStart =>
    refine ⟨18, _, by omega, rfl, rfl, by omega, by omega, by show _ < _; omega, ?_, (Below.refl _ _).alloc (Nat.le_refl _) _⟩
    refine ⟨_, heap_alloc_new w _, rfl, fun j hj1 hj2 => ?_⟩
    obtain rfl : j = 19 := by omega
    exact ⟨dig (-(n + 1) + 1), good_dig _, by rw [dig_toNat]; rfl⟩
  case round =>
    obtain ⟨k, U, hk, rfl, rfl, hU0, hU1, hUk, hbuf, hbel⟩ := hrel
    have HBuf : Hid (Buf w.heap.size (k + 1) wr) := hbuf
    by_cases hU : U = 0
    · subst hU
      clear hUk hbuf
      have hwz := hbel.size
      go_wp2_with (at_make; go_must (refine wpList_make_own _ rfl _ _ 22 rfl w.heap.size 5 i0 (.int .u8 0) 1 Try.underlying22 hi hz0 hz1 .i64 .i64 _ 26 rfl rfl rfl ?a1 ?a2 ?a3 ?_))
      case a1 => rw [hz2]; omega
      case a2 => unfold maxLen; omega
      case a3 => exact hwz
      intro w1 hown1 hgrow1
      have hbel1 : Below wr.heap.size wr w1 := (Below.refl _ wr).grown hgrow1 (Nat.le_refl _) (fun k hk => by cases hk)
      obtain ⟨l, hll, hlg, hlc⟩ := HBuf.out.bytes (19 - k) (by omega)
      clear hgrow1
      have hb1z := hbel1.size
      go_wp2_with (at_builtin; go_must (refine wpList_append_own _ rfl (.tmp 40) (.tmp 41) 22 rfl w.heap.size 5 i0 (.int .u8 0) 1 1 Try.underlying22 hi hz0 hz1 hz2 rfl (by decide) _ 0 [] rfl (hown1.alloc _) ⟨w1.heap.size, 0, none⟩ 1 1 [.int .u8 45] rfl rfl ?c1 ?c2 ?c3 ?c4 ?c5 ?_))
      case c1 => exact cell_one_new _ _ _
      case c2 => intro u hu; simp at hu; subst hu; rfl
      case c3 => unfold maxLen; omega
      case c4 => omega
      case c5 => simp; omega
      intro v1 w1' hown1' hgrow1' _
      have hbel1' : Below wr.heap.size wr w1' := (hbel1.alloc hb1z _).grown hgrow1' (by simp; omega) (fun k hk => by cases hk; exact Nat.le_refl _)
      clear hgrow1' hown1 hbel1 hb1z
      have hsl := slice44 w.heap.size k hk
      go_wp2_with (at_builtin; go_must (refine wpList_append_own _ rfl _ _ 22 rfl w.heap.size 5 i0 (.int .u8 0) 1 1 Try.underlying22 hi hz0 hz1 hz2 rfl (by decide) v1 1 [.int .u8 45] rfl hown1' ⟨w.heap.size, k + 1, none⟩ (19 - k) (19 - k) (Lib.byteCells l) rfl ?b1 ?b2 ?b3 ?b4 ?b5 ?b6 ?_))
      case b1 => rw [Lib.byteCells_length]; omega
      case b2 =>
        intro j u hj
        rw [Go.WideShapes.add_plain]
        exact cell_later hbel1' (hlc j u hj)
      case b3 => exact byteCells_one l
      case b4 => unfold maxLen; omega
      case b5 => omega
      case b6 => have := hbel1'.size; omega
      intro v' w2 hown2 hgrow2 _
      have hb2 : Below w.heap.size w w2 := (hbel.trans (hbel1'.mono hwz)).grown hgrow2 (by have := hbel1'.size; omega) (fun k hk => (hown1'.lt k hk).1)
      have HF : Hid (w2.ownsRow w.heap.size 5 1 v' (45 :: l).length (Lib.byteCells (45 :: l)) ∧ Below w.heap.size w w2) := ⟨by rw [show Lib.byteCells (45 :: l) = [.int .u8 45] ++ Lib.byteCells l from rfl, List.length_cons, hll, Nat.add_comm]; exact hown2, hb2⟩
      clear hown2 hgrow2 hb2 hown1' hbel1' hsl
      go_wp2
      go_ret
      exact ⟨v', 45 :: l, rfl, HF.out.1, HF.out.2, allGood_append (a := [45]) (fun c hc => by simp at hc; subst hc; decide) hlg, by simp, by simp; omega⟩
    · obtain ⟨k', rfl⟩ : ∃ k', k = k' + 1 := by
        cases k with
        | zero => have := hUk.out; simp at this; omega
        | succ k' => exact ⟨k', rfl⟩
      have hne : (U != 0) = true := by simpa using hU
      obtain ⟨⟨v, hv⟩, hf⟩ := hbuf.cell (k' + 1) (by omega)
      have HP : Hid (U / 10 < 10 ^ k') := pow_step U k' hU0 hUk.out
      clear hbuf hUk
      have HB2 : Hid (Buf w.heap.size (k' + 1) (wr.setCell ⟨w.heap.size, k' + 1, none⟩ (.int .u8 (48 + U % 10)))) := HBuf.out.put (by omega) U
      have HB3 : Hid (Below w.heap.size w (wr.setCell ⟨w.heap.size, k' + 1, none⟩ (.int .u8 (48 + U % 10)))) := hbel.setCell (Nat.le_refl _) _
      go_wp2
      go_roundw
      case rel => exact ⟨k', _, by omega, rfl, rfl, by omega, by omega, HP, HB2.out, HB3.out⟩
      case measure => simp [intOf]; omega

theorem itoa_any (n : Int) (w : World) (h1 : -9223372036854775808 ≤ n) (h2 : n ≤ 9223372036854775807) : Calls Try.prog 27 #[.int .i64 n] w (ItoaPost w) := by
  by_cases h : 0 ≤ n
  · exact itoa_pos n w h h2
  · exact itoa_neg n w (by omega) h1

end Go.Proofs.Qxb6600766a
