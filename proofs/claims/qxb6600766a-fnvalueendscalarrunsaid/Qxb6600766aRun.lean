import Derived.Test.Qxb6600766aText
namespace Go.Proofs.Qxb6600766a
open Go.RowKit
set_option linter.unusedVariables false

def Goal (w : World) (e : Ending) (w' : World) : Prop := e = .returned (.bool true) ∧ Below w.heap.size w w'
theorem Goal.mk {w w' : World} (h : Below w.heap.size w w') : Goal w (.returned (.bool true)) w' := ⟨rfl, h⟩

def ZzPost (N : Nat) (w : World) (e : Ending) (w' : World) : Prop := ∃ b, e = .returned (.bool b) ∧ w = w' ∧ (b = true → N ≤ 1048576)
theorem ZzPost.no (N : Nat) (w : World) : ZzPost N w (.returned (.bool false)) w := ⟨false, rfl, rfl, by simp⟩
theorem ZzPost.yes (N : Nat) (w : World) (h : N ≤ 1048576) : ZzPost N w (.returned (.bool true)) w := ⟨true, rfl, rfl, fun _ => h⟩

set_option maxHeartbeats 400000 in
theorem zzBytes_run (a : Option Addr) (len cap : Nat) (at_ : Int) (w : World) (h0 : len ≤ maxLen) :
    Calls Try.prog 16 #[.slice a len cap, .int .i64 at_] w (ZzPost len w) := by
  unfold maxLen at h0
  go_enter Try.func16, Try.ntmps16
  go_wp2
  all_goals first | (go_ret; exact ZzPost.no _ _) | (go_ret; exact ZzPost.yes _ _ (by omega))

theorem info5 : (Try.prog.info? 5).map (fun i => (i.zero, i.size, i.bytes)) = some (some (.int .u8 0), 1, 1) := by kernel_rfl
theorem size5 : (Try.prog.info? 5).map (·.size) = some 1 := by kernel_rfl

theorem holds_of_block {w : World} {g : Nat} {l : List UInt8} {t : TypeId} {fr : Nat × Nat} (h : w.heap[g]? = some (.cells (Lib.byteCells l).toArray t fr)) : Holds w g 0 l := by
  intro i hi
  simp only [World.cell?, h, Nat.zero_add]
  simp [Lib.byteCells, List.getElem?_eq_getElem hi]

theorem isSep_val (c : UInt8) (b : Bool) (w : World) (h : isSep c = b) : Calls Try.prog 17 #[.int .u8 c.toNat] w fun e w' => e = .returned (.bool b) ∧ w = w' := by
  rw [← h]; exact isSep_any c w

set_option maxHeartbeats 1000000 in
theorem run_out (a : Option Addr) (len cap : Nat) (at_ : Int) (w : World) (h0 : len ≤ maxLen) (h : at_ < 0 ∨ (len : Int) ≤ at_) :
    Calls Try.prog 5 #[.slice a len cap, .int .i64 at_] w (Goal w) := by
  go_enter Try.func5, Try.ntmps5
  go_wp2_with fail
  refine (zzBytes_run a len cap at_ w h0).mono ?_
  rintro e w' ⟨b, rfl, rfl, hb⟩
  unfold maxLen at h0
  clear hb
  cases b with
  | false =>
    go_wp2
    go_ret
    exact Goal.mk (Below.refl _ _)
  | true =>
    rcases h with h | h
    · go_wp2
      all_goals
        go_ret
        exact Goal.mk (Below.refl _ _)
    · by_cases h2 : at_ < 0
      · go_wp2
        all_goals
          go_ret
          exact Goal.mk (Below.refl _ _)
      · go_wp2
        all_goals
          go_ret
          exact Goal.mk (Below.refl _ _)

set_option maxHeartbeats 2000000 in
theorem run_in (b off cap : Nat) (l : List UInt8) (k : Nat) (w : World) (h0 : l.length ≤ maxLen) (hk : k < l.length) (hc : Holds w b off l) :
    Calls Try.prog 5 #[.slice (some ⟨b, off, none⟩) l.length cap, .int .i64 k] w (Goal w) := by
  obtain ⟨i0, hi, hz0, hz1, hz2⟩ := info_parts info5
  have hnn := fun w => run_neq_slice_nil_any (P := Try.prog) w 22 5 (some ⟨b, off, none⟩) l.length cap 0 0 Try.underlying22
  go_enter Try.func5, Try.ntmps5
  go_wp2_with fail
  refine (zzBytes_run _ _ cap k w h0).mono ?_
  rintro e w' ⟨bb, rfl, rfl, hb⟩
  cases bb with
  | false =>
    go_wp2
    go_ret
    exact Goal.mk (Below.refl _ _)
  | true =>
    have hb := hb rfl
    clear h0
    go_wp2_with (at_make; go_must (refine wpList_make_full _ rfl _ _ 22 rfl w.heap.size 5 i0 (.int .u8 0) 1 Try.underlying22 hi hz0 hz1 .i64 .i64 _ _ l.length rfl rfl rfl rfl ?a1 ?a2 ?a3 ?_))
    case a1 => rw [hz2]; omega
    case a2 => unfold maxLen; omega
    case a3 => exact Nat.le_refl _
    intro w1 hown1 hgrow1
    obtain ⟨cur, hcur, hcl⟩ : ∃ cur : List Value, w1.heap[w.heap.size]? = some (.cells cur.toArray 5 (0, 0)) ∧ cur.length = l.length := by
      rcases hown1.2 with ⟨hv, _⟩ | ⟨g, cp, cr, hv, _, hg, _, _, hs, _⟩
      · simp at hv
      · simp at hv
        obtain ⟨rfl, rfl⟩ := hv
        exact ⟨cr.toList, by simpa using hg, by simpa using hs⟩
    have hbel1 : Below w.heap.size w w1 := (Below.refl _ w).grown hgrow1 (Nat.le_refl _) (fun k hk => by cases hk)
    have hcw : Holds w1 b off l := fun i hi => (hbel1.cell (World.block_lt_of_cell? w _ (hc i hi))).trans (hc i hi)
    clear hown1 hgrow1
    go_wp2_with (refine wpList_copy_splice rfl (.tmp 29) (.tmp 30) 22 22 rfl 5 Try.underlying22 size5 _ _ _ _ _ _ rfl rfl w.heap.size 0 cur 5 hcur (Lib.byteCells l) ?b1 ?b2 ?b3 ?b4 w.heap.size w hbel1 (Nat.le_refl _) ?_)
    case b1 => rw [Lib.byteCells_length]; simp
    case b2 =>
      intro _ j v hj
      rw [Lib.byteCells, List.getElem?_map, Option.map_eq_some_iff] at hj
      obtain ⟨c, hc1, rfl⟩ := hj
      obtain ⟨hj1, hj2⟩ := List.getElem?_eq_some_iff.1 hc1
      rw [hcw j hj1]
      simp [List.getElem?_eq_getElem hj1, hj2]
    case b3 => rw [Lib.byteCells_length]; omega
    case b4 =>
      intro v hv
      rw [Lib.byteCells, List.mem_map] at hv
      obtain ⟨c, _, rfl⟩ := hv
      rfl
    intro w2 hg2 hbel2
    have hh2 : Holds w2 w.heap.size 0 l := by
      have e : splice cur 0 (Lib.byteCells l) = Lib.byteCells l := by
        unfold splice
        rw [Nat.zero_add, List.drop_of_length_le (by rw [Lib.byteCells_length]; omega)]
        simp
      have h := hg2.out
      rw [e] at h
      exact holds_of_block h
    have HB2 : Hid (Below w.heap.size w w2) := hbel2
    clear hg2 hcw hbel1 hcur hcl hnn hc hbel2
    have hck := hh2 k hk
    simp only [Nat.zero_add] at hck
    obtain ⟨c, hcc⟩ : ∃ c, l.getD k 0 = c := ⟨_, rfl⟩
    rw [hcc] at hck
    have HC : Hid (l.getD k 0 = c) := hcc
    clear hcc
    by_cases q1 : (c.toNat : Int) = 34
    · have q1b : ((c.toNat : Int) == 34) = true := by simpa using q1
      clear q1
      go_wp2
      go_ret
      exact Goal.mk HB2.out
    · have q1b : ((c.toNat : Int) == 34) = false := by simpa using q1
      by_cases q2 : (c.toNat : Int) = 123
      · have q2b : ((c.toNat : Int) == 123) = true := by simpa using q2
        clear q1 q2
        go_wp2
        go_ret
        exact Goal.mk HB2.out
      · have q2b : ((c.toNat : Int) == 123) = false := by simpa using q2
        by_cases q3 : (c.toNat : Int) = 91
        · have q3b : ((c.toNat : Int) == 91) = true := by simpa using q3
          clear q1 q2 q3
          go_wp2
          go_ret
          exact Goal.mk HB2.out
        · have q3b : ((c.toNat : Int) == 91) = false := by simpa using q3
          have n1 : (((l.getD k 0).toNat : Int) != 34) = true := by rw [HC.out]; simpa using q1
          have n2 : (((l.getD k 0).toNat : Int) != 123) = true := by rw [HC.out]; simpa using q2
          have n3 : (((l.getD k 0).toNat : Int) != 91) = true := by rw [HC.out]; simpa using q3
          have NN : Hid ((((l.getD k 0).toNat : Int) != 34) = true ∧ (((l.getD k 0).toNat : Int) != 123) = true ∧ (((l.getD k 0).toNat : Int) != 91) = true) := ⟨n1, n2, n3⟩
          clear n1 n2 n3 q1 q2 q3
          go_wp2_with fail
          refine (zzValueEnd_scalar w.heap.size 0 l.length l k w2 (by omega) hk hh2 NN.out.1 NN.out.2.1 NN.out.2.2).mono ?_
          rintro e w' ⟨n, rfl, rfl, hn1, hn2, hn3, hn4⟩
          have HN3 : Hid (∀ j, k ≤ j → j < n → isSep (l.getD j 0) = false) := hn3
          have HN4 : Hid (n < l.length → isSep (l.getD n 0) = true) := hn4
          clear hn3 hn4 q1b q2b q3b hck
          go_wp2
          rename _ ∧ _ => hx1
          clear hx1
          rename _ ∧ _ => hx2
          clear hx2
          go_loop [8] (fun i => ∃ j : Nat, k ≤ j ∧ j ≤ n ∧ i = .int .i64 j) (fun i => n - (intOf i).toNat)
          case atStart => exact ⟨k, by omega, by omega, rfl⟩
          case round =>
            obtain ⟨j, hj1, hj2, rfl⟩ := hrel
            by_cases hlt : j < n
            · have hcj := hh2 j (by omega)
              simp only [Nat.zero_add] at hcj
              have hsj := HN3.out j hj1 hlt
              generalize l.getD j 0 = cj at hcj hsj
              have HSJ : Hid (isSep cj = false) := hsj
              clear hsj
              go_wp2_with (go_at_call 17; refine (isSep_val cj _ _ HSJ.out).mono ?_; rintro e w' ⟨rfl, rfl⟩)
              go_round
              case rel => exact ⟨j + 1, by omega, by omega, by go_num⟩
              case measure => simp [intOf]; omega
            · by_cases hle : n < l.length
              · have hcj := hh2 n hle
                simp only [Nat.zero_add] at hcj
                have hsj := HN4.out hle
                generalize l.getD n 0 = cj at hcj hsj
                have HSJ : Hid (isSep cj = true) := hsj
                clear hsj
                go_wp2_with (go_at_call 17; refine (isSep_val cj _ _ HSJ.out).mono ?_; rintro e w' ⟨rfl, rfl⟩)
                go_ret
                exact Goal.mk HB2.out
              · have hne : ((n : Int) == (l.length : Int)) = true := by simp; omega
                go_wp2
                go_ret
                exact Goal.mk HB2.out

end Go.Proofs.Qxb6600766a
