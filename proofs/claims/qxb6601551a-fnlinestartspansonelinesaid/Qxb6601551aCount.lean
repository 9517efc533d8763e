import Derived.Test.Qxb6601551aLine
namespace Go.Proofs.Qxb6601551a
open Go.RowKit
set_option linter.unusedVariables false

def Goal (w : World) (e : Ending) (w' : World) : Prop := e = .returned (.bool true) ∧ Below w.heap.size w w'
theorem Goal.mk {w w' : World} (h : Below w.heap.size w w') : Goal w (.returned (.bool true)) w' := ⟨rfl, h⟩

theorem line_val (a : Option Addr) (l : List UInt8) (k : Int) (v : Int) (w : World) (hn : l.length ≤ 1048576) (hb : -9223372036854775808 ≤ k ∧ k ≤ 9223372036854775807) (h : Own w a l) (hv : ((ls l k.toNat : Nat) : Int) = v) :
    Calls Try.prog 9 #[.slice a l.length l.length, .int .i64 k] w fun e w' => e = .returned (.int .i64 v) ∧ w = w' := by
  rw [← hv]; exact line_own a l k w hn hb h

set_option maxHeartbeats 2000000 in
theorem count_any (a : Option Addr) (cap : Nat) (l : List UInt8) (k : Int) (w : World) (h0 : l.length ≤ maxLen) (hb : -9223372036854775808 ≤ k ∧ k ≤ 9223372036854775807) (hn : a = none → l = [])
    (hs : Shows w.heap.size w a l.length (fun i => .int .u8 (u8v l i))) :
    Calls Try.prog 3 #[.slice a l.length cap, .int .i64 k] w (Goal w) := by
  go_enter Try.func3, Try.ntmps3
  go_wp2_with fail
  refine (zzBytes_count _ _ cap k w h0).mono ?_
  rintro e w' ⟨bb, rfl, rfl, hbb⟩
  cases bb with
  | false =>
    go_wp2
    go_ret
    exact Goal.mk (Below.refl _ _)
  | true =>
    have hbb' : l.length ≤ 1048576 := hbb rfl
    clear h0 hbb
    have hbb := hbb'
    clear hbb'
    go_wp2_with fail
    refine (copy_any a cap l w hbb hn hs).mono ?_
    rintro e w1 ⟨a1, rfl, hbel, hown⟩
    have HOWN : Hid _ := hown
    clear hown hn hs
    by_cases hk : 0 < k
    · obtain ⟨m, rfl⟩ : ∃ m : Nat, k = m := ⟨k.toNat, by omega⟩
      go_wp2_with fail
      go_loopw [5, 6, 7] (fun wt sn i wr => ∃ j : Nat, j ≤ l.length ∧ wt = .int .i64 l.length ∧ sn = .int .i64 (cnt (l.take j)) ∧ cnt (l.take j) < m ∧ i = .int .i64 j ∧ wr = w1) (fun _ _ i _ => l.length - (intOf i).toNat)
      case atStart => exact ⟨0, Nat.zero_le _, rfl, by simp [cnt], by simp [cnt]; omega, rfl, rfl⟩
      case round =>
        obtain ⟨j, hj, rfl, rfl, hlt, rfl, rfl⟩ := hrel
        by_cases hjl : j < l.length
        · have hct := cnt_take_succ l j hjl
          have hcl : cnt (l.take j) ≤ j := by
            have := List.countP_le_length (l := l.take j) (p := (· == 10))
            rw [List.length_take] at this
            unfold cnt; omega
          have HHIT : Hid _ := ls_hit l j m hjl
          obtain ⟨g, rfl, hc⟩ : ∃ g, a1 = some ⟨g, 0, none⟩ ∧ ∀ i, i < l.length → wr.cell? ⟨g, i, none⟩ = some (.int .u8 (u8v l i)) := by
            rcases HOWN.out with ⟨_, rfl⟩ | h
            · simp at hjl
            · exact h
          have hcj := hc j hjl
          have hub := u8v_bounds l j
          clear hc
          by_cases h10 : u8v l j = 10
          · rw [h10] at hcj
            have h10' := (u8v_ten l j).1 h10
            rw [if_pos h10'] at hct
            have H10 : Hid _ := h10'
            clear h10 h10' hub
            have HCT : Hid _ := hct
            clear hct
            generalize hs : cnt (l.take j) = s at *
            have HS : Hid _ := hs
            clear hs
            by_cases hm : s + 1 = m
            · subst hm
              go_wp2_with fail
              refine (line_val _ l (s + 1) (j + 1) _ hbb (by omega) HOWN.out ?_).mono ?_
              · have := HHIT.out H10.out HCT.out
                have e1 : ((s : Int) + 1).toNat = s + 1 := by omega
                rw [e1, this]; rfl
              rintro e w' ⟨rfl, rfl⟩
              go_wp2
              go_ret
              exact Goal.mk hbel
            · go_wp2
              go_roundw
              case rel =>
                refine ⟨j + 1, by omega, rfl, by rw [HCT.out]; go_num, by rw [HCT.out]; omega, by go_num, trivial⟩
              case measure => simp [intOf]; omega
          · rw [if_neg (fun h => h10 ((u8v_ten l j).2 h))] at hct
            generalize u8v l j = c at *
            have HCT : Hid _ := hct
            clear hct
            generalize hs : cnt (l.take j) = s at *
            have HS : Hid _ := hs
            clear hs
            go_wp2
            go_roundw
            case rel =>
              refine ⟨j + 1, by omega, rfl, by rw [HCT.out]; rfl, by rw [HCT.out]; omega, by go_num, trivial⟩
            case measure => simp [intOf]; omega
        · obtain rfl : j = l.length := by omega
          go_wp2_with fail
          refine (line_val _ l m l.length _ hbb hb HOWN.out ?_).mono ?_
          · rw [List.take_length] at hlt
            have e1 : ((m : Nat) : Int).toNat = m := by omega
            rw [e1, ls_miss l m hlt]
          rintro e w' ⟨rfl, rfl⟩
          go_wp2
          go_ret
          exact Goal.mk hbel
    · go_wp2_with fail
      refine (line_val _ l k 0 _ hbb hb HOWN.out ?_).mono ?_
      · have e1 : k.toNat = 0 := by omega
        rw [e1]; rfl
      rintro e w' ⟨rfl, rfl⟩
      go_wp2
      go_ret
      exact Goal.mk hbel

end Go.Proofs.Qxb6601551a
