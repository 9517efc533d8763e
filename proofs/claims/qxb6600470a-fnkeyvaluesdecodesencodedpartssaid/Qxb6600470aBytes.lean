import Derived.Test.Qxb6600470aLeaf
namespace Go.Proofs.Qxb6600470a
open Go.RowKit
set_option linter.unusedVariables false

def sumTo (g : Nat → Nat) : Nat → Nat
  | 0 => 0
  | k + 1 => sumTo g k + g k

def ZzPost (N : Nat) (w : World) (e : Ending) (w' : World) : Prop := ∃ b, e = .returned (.bool b) ∧ w = w' ∧ (b = true → N ≤ 1048576)
theorem ZzPost.no (N : Nat) (w : World) : ZzPost N w (.returned (.bool false)) w := ⟨false, rfl, rfl, by simp⟩
theorem ZzPost.yes (N : Nat) (w : World) (h : N ≤ 1048576) : ZzPost N w (.returned (.bool true)) w := ⟨true, rfl, rfl, fun _ => h⟩

set_option maxHeartbeats 400000 in
theorem zzBytes_any (B : Nat) (a0 a1 a2 a3 : Option Addr) (l0 c0 l1 c1 l2 c2 l3 c3 : Nat) (f : Nat → ByteArray) (w : World)
    (h0 : l0 ≤ maxLen) (h1 : l1 ≤ maxLen) (h2 : l2 ≤ maxLen) (h3 : l3 ≤ maxLen) (hf : ∀ i, i < l2 → (f i).size ≤ maxLen)
    (hc : Shows B w a2 l2 (fun i => .string (f i))) :
    Calls Try.prog 10 #[.slice a0 l0 c0, .slice a1 l1 c1, .slice a2 l2 c2, .slice a3 l3 c3] w
      (ZzPost (l0 + l1 + l2 + sumTo (fun i => (f i).size) l2 + l3) w) := by
  unfold maxLen at h0 h1 h2 h3 hf
  go_enter Try.func10, Try.ntmps10
  go_wp2
  all_goals first | (go_ret; exact ZzPost.no _ _) | skip
  go_loop [9, 10] (fun n i => ∃ k : Nat, k ≤ l2 ∧ i = .int .i64 k ∧ n = .int .i64 ((l0 + l1 + l2 + sumTo (fun i => (f i).size) k : Nat)) ∧ l0 + l1 + l2 + sumTo (fun i => (f i).size) k ≤ 1048576) (fun _ i => l2 - (intOf i).toNat)
  case atStart => exact ⟨0, Nat.zero_le _, rfl, by simp [sumTo], by simp [sumTo]; omega⟩
  case round =>
    obtain ⟨k, hk, rfl, rfl, hs⟩ := hrel
    by_cases hlt : k < l2
    · obtain ⟨b, off, rfl, -, h3⟩ := hc k hlt
      have hfk := hf k hlt
      clear hc hf
      go_wp2
      all_goals first | (go_ret; exact ZzPost.no _ _) | skip
      go_round
      case rel => exact ⟨k + 1, by omega, by go_num, by simp [sumTo]; omega, by simp [sumTo]; omega⟩
      case measure => simp [intOf]; omega
    · clear hc hf
      have hkl : k = l2 := by omega
      subst hkl
      go_wp2
      all_goals first | (go_ret; exact ZzPost.no _ _) | (go_ret; exact ZzPost.yes _ _ (by omega))

end Go.Proofs.Qxb6600470a
