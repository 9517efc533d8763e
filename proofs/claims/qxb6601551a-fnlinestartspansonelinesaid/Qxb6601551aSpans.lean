import Derived.Test.Qxb6601551aCount
namespace Go.Proofs.Qxb6601551a
open Go.RowKit
set_option linter.unusedVariables false

set_option maxHeartbeats 4000000 in
theorem spans_any (a : Option Addr) (cap : Nat) (l : List UInt8) (k : Int) (w : World) (h0 : l.length ≤ maxLen) (hb : -9223372036854775808 ≤ k ∧ k ≤ 9223372036854775807) (hn : a = none → l = [])
    (hs : Shows w.heap.size w a l.length (fun i => .int .u8 (u8v l i))) :
    Calls Try.prog 4 #[.slice a l.length cap, .int .i64 k] w (Goal w) := by
  go_enter Try.func4, Try.ntmps4
  go_wp2_with fail
  refine (zzBytes_spans _ _ cap k w h0).mono ?_
  rintro e w' ⟨bb, rfl, rfl, hbb⟩
  cases bb with
  | false =>
    go_wp2
    go_ret
    exact Goal.mk (Below.refl _ _)
  | true =>
    have hbb' : l.length ≤ 1048576 := hbb rfl
    clear h0 hbb
    have hbb := hbb'
    clear hbb'
    by_cases hk0 : k < 0
    · go_wp2
      all_goals
        go_ret
        exact Goal.mk (Below.refl _ _)
    · by_cases hkm : k = 9223372036854775807
      · subst hkm
        go_wp2
        all_goals
          go_ret
          exact Goal.mk (Below.refl _ _)
      · have hkb : (k == 9223372036854775807) = false := by simpa using hkm
        go_wp2_with fail
        refine (copy_any a cap l w hbb hn hs).mono ?_
        rintro e w1 ⟨a1, rfl, hbel, hown⟩
        have HOWN : Hid _ := hown
        clear hown hn hs
        obtain ⟨m, rfl⟩ : ∃ m : Nat, k = m := ⟨k.toNat, by omega⟩
        obtain ⟨p, hp⟩ : ∃ p, ls l m = p := ⟨_, rfl⟩
        obtain ⟨q, hq⟩ : ∃ q, ls l (m + 1) = q := ⟨_, rfl⟩
        have HSP : Hid _ := ls_spans l m
        rw [hp, hq] at HSP
        have HPQ : Hid (ls l m = p ∧ ls l (m + 1) = q) := ⟨hp, hq⟩
        have hpq : p ≤ q := HSP.out.1
        have hqn : q ≤ l.length := HSP.out.2.1
        clear hp hq
        go_wp2_with fail
        refine (line_val _ l m p _ hbb hb HOWN.out ?_).mono ?_
        · have e1 : ((m : Nat) : Int).toNat = m := by omega
          rw [e1, HPQ.out.1]
        rintro e w' ⟨rfl, rfl⟩
        go_wp2_with fail
        refine (line_val _ l (m + 1) q _ hbb (by omega) HOWN.out ?_).mono ?_
        · have e1 : ((m : Int) + 1).toNat = m + 1 := by omega
          rw [e1, HPQ.out.2]
        rintro e w' ⟨rfl, rfl⟩
        clear hkb hkm
        by_cases hpn : p = l.length
        · obtain rfl : q = p := by omega
          subst hpn
          go_wp2
          all_goals
            go_loopw [7] (fun i wr => i = .int .i64 l.length ∧ wr = w1) (fun _ _ => 0)
            case atStart => exact ⟨rfl, rfl⟩
            case round =>
              obtain ⟨rfl, rfl⟩ := hrel
              go_wp2
              go_ret
              exact Goal.mk hbel
        · have hpq' : p < q := HSP.out.2.2.2.1 (by omega)
          obtain ⟨g, rfl, hc⟩ : ∃ g, a1 = some ⟨g, 0, none⟩ ∧ ∀ i, i < l.length → w1.cell? ⟨g, i, none⟩ = some (.int .u8 (u8v l i)) := by
            rcases HOWN.out with ⟨_, rfl⟩ | h
            · simp at hqn; omega
            · exact h
          have HC : Hid _ := hc
          clear hc
          cases p with
          | zero =>
            go_wp2
            go_loopw [7] (fun i wr => ∃ j : Nat, Hid (0 ≤ j) ∧ j + 1 ≤ q ∧ i = .int .i64 j ∧ wr = w1) (fun i _ => q - (intOf i).toNat)
            case atStart => exact ⟨0, Nat.le_refl _, by omega, rfl, rfl⟩
            case round =>
              obtain ⟨j, HJ, hjq, rfl, rfl⟩ := hrel
              by_cases hj : j + 1 < q
              · have hcj := HC.out j (by omega)
                have hne : u8v l j ≠ 10 := fun h => HSP.out.2.2.2.2.1 j HJ.out hj ((u8v_ten l j).1 h)
                have hub := u8v_bounds l j
                generalize u8v l j = c at *
                go_wp2
                go_roundw
                case rel => exact ⟨j + 1, Nat.le_succ_of_le HJ.out, by omega, by go_num, trivial⟩
                case measure => simp [intOf]; omega
              · by_cases hqe : q = l.length
                · go_wp2
                  go_ret
                  exact Goal.mk hbel
                · obtain rfl : q = j + 1 := by omega
                  have hcq : wr.cell? ⟨g, j, none⟩ = some (.int .u8 10) := by
                    rw [HC.out j (by omega), (u8v_ten l j).2 (HSP.out.2.2.2.2.2 hpq' (by omega))]
                  go_wp2
                  go_ret
                  exact Goal.mk hbel
          | succ p =>
            have hcp : w1.cell? ⟨g, p, none⟩ = some (.int .u8 10) := by
              rw [HC.out p (by omega), (u8v_ten l p).2 (HSP.out.2.2.1 (by omega) (by omega))]
            go_wp2
            clear hcp
            go_loopw [7] (fun i wr => ∃ j : Nat, Hid (p + 1 ≤ j) ∧ j + 1 ≤ q ∧ i = .int .i64 j ∧ wr = w1) (fun i _ => q - (intOf i).toNat)
            case atStart => exact ⟨p + 1, Nat.le_refl _, by omega, by go_num, rfl⟩
            case round =>
              obtain ⟨j, HJ, hjq, rfl, rfl⟩ := hrel
              by_cases hj : j + 1 < q
              · have hcj := HC.out j (by omega)
                have hne : u8v l j ≠ 10 := fun h => HSP.out.2.2.2.2.1 j HJ.out hj ((u8v_ten l j).1 h)
                have hub := u8v_bounds l j
                generalize u8v l j = c at *
                go_wp2
                go_roundw
                case rel => exact ⟨j + 1, Nat.le_succ_of_le HJ.out, by omega, by go_num, trivial⟩
                case measure => simp [intOf]; omega
              · by_cases hqe : q = l.length
                · go_wp2
                  go_ret
                  exact Goal.mk hbel
                · obtain rfl : q = j + 1 := by omega
                  have hcq : wr.cell? ⟨g, j, none⟩ = some (.int .u8 10) := by
                    rw [HC.out j (by omega), (u8v_ten l j).2 (HSP.out.2.2.2.2.2 hpq' (by omega))]
                  go_wp2
                  go_ret
                  exact Goal.mk hbel

end Go.Proofs.Qxb6601551a
