import Derived.Test.Qxb6600766aStr
namespace Go.Proofs.Qxb6600766a
open Go.RowKit
set_option linter.unusedVariables false

def TokPost (w : World) (kv : Int) (s : ByteArray) (e : Ending) (w' : World) : Prop :=
  ∃ v tok, e = .returned v ∧ w'.ownsRow w.heap.size 5 1 v tok.length (Lib.byteCells tok) ∧ Below w.heap.size w w' ∧ tok.length ≤ 6291458 ∧
    ((kv % 5 = 3 ∧ tok = 34 :: qb s.data.toList ++ [34]) ∨ (kv % 5 ≠ 3 ∧ allGood tok ∧ tok ≠ []))

theorem app_end {B m : Nat} {w W w1 : World} {v v' : Value} {l news : List UInt8} {o : Obj} (hbel : Below B w W) (hB : B ≤ W.heap.size) (hown : W.ownsRow B 5 1 v l.length (Lib.byteCells l))
    (hown' : w1.ownsRow B 5 1 v' (l.length + m) (Lib.byteCells l ++ Lib.byteCells news)) (hm : news.length = m) (hgrow : (W.alloc o).grownBy w1 v.ownBlock) :
    w1.ownsRow B 5 1 v' (l ++ news).length (Lib.byteCells (l ++ news)) ∧ Below B w w1 := app_step hbel hB hown hown' hm hgrow

set_option maxHeartbeats 1000000 in
theorem scalarToken_any (n kv : Int) (s : ByteArray) (w : World) (h1 : -9223372036854775808 ≤ n) (h2 : n ≤ 9223372036854775807) (k0 : 0 ≤ kv) (k1 : kv ≤ 255) (hs : s.size ≤ 1048576) :
    Calls Try.prog 14 #[.int .i64 n, .int .u8 kv, .string s] w (TokPost w kv s) := by
  obtain ⟨i0, hi, hz0, hz1, hz2⟩ := info_parts inf5
  rcases (show kv % 5 = 0 ∨ kv % 5 = 1 ∨ kv % 5 = 2 ∨ kv % 5 = 3 ∨ kv % 5 = 4 by omega) with hk | hk | hk | hk | hk
  · have HK : Hid (kv % 5 = 0) := hk
    go_enter Try.func14, Try.ntmps14
    go_wp2_with fail
    refine (itoa_any n w h1 h2).mono ?_
    rintro e w1 ⟨v, l, rfl, hown, hb, hg, hne, hl⟩
    go_wp2
    go_ret
    exact ⟨v, l, rfl, hown, hb, by omega, .inr ⟨by have := HK.out; omega, hg, hne⟩⟩
  · have HK : Hid (kv % 5 = 1) := hk
    go_enter Try.func14, Try.ntmps14
    go_wp2_with fail
    refine (itoa_any n w h1 h2).mono ?_
    rintro e w1 ⟨v, l, rfl, hown, hb, hg, hne, hl⟩
    have hbz := hb.size
    go_wp2_with (at_builtin; go_must (refine wpList_append_own _ rfl _ _ 22 rfl w.heap.size 5 i0 (.int .u8 0) 1 1 Try.underlying22 hi hz0 hz1 hz2 rfl (by decide) _ _ _ rfl (hown.alloc _) ⟨w1.heap.size, 0, none⟩ 5 5 (Lib.byteCells [46, 53, 101, 45, 51]) rfl rfl (cells_new _ (Lib.byteCells [46, 53, 101, 45, 51]) _) (byteCells_one _) (by unfold maxLen; omega) (by omega) (by simp; omega) ?_))
    intro v' w2 hown2 hgrow2 _
    obtain ⟨hown3, hbel3⟩ := app_end hb hbz hown hown2 rfl hgrow2
    clear hown2 hgrow2
    go_wp2
    go_ret
    exact ⟨v', l ++ [46, 53, 101, 45, 51], rfl, hown3, hbel3, by simp; omega, .inr ⟨by have := HK.out; omega, allGood_append hg (by show ∀ c ∈ [46, 53, 101, 45, 51], good c = true; decide), by simp⟩⟩
  · have HK : Hid (kv % 5 = 2) := hk
    go_enter Try.func14, Try.ntmps14
    go_wp2_with (at_make; go_must (refine wpList_make_own _ rfl _ _ 22 rfl w.heap.size 5 i0 (.int .u8 0) 1 Try.underlying22 hi hz0 hz1 .i64 .i64 _ 5 rfl rfl rfl ?a1 ?a2 ?a3 ?_))
    case a1 => rw [hz2]; omega
    case a2 => unfold maxLen; omega
    case a3 => exact Nat.le_refl _
    intro wa hown hgrow
    have hba : Below w.heap.size w wa := (Below.refl _ w).grown hgrow (Nat.le_refl _) (fun k hk => by cases hk)
    have hbz := hba.size
    clear hgrow
    go_wp2_with fail
    refine (word_any _ w.heap.size _ wa hbz hown).mono ?_
    rintro e w1 ⟨v, l, rfl, hown1, hb, hg, hne, hl⟩
    go_wp2
    go_ret
    exact ⟨v, l, rfl, hown1, hba.trans hb, by omega, .inr ⟨by have := HK.out; omega, hg, hne⟩⟩
  · have HK : Hid (kv % 5 = 3) := hk
    go_enter Try.func14, Try.ntmps14
    go_wp2_with fail
    refine (quote_any s w hs).mono ?_
    rintro e w1 ⟨v, rfl, hown, hb⟩
    go_wp2
    go_ret
    refine ⟨v, _, rfl, hown, hb, ?_, .inl ⟨HK.out, rfl⟩⟩
    have := qb_len s.data.toList
    rw [← Lib.size_eq] at this
    simp; omega
  · have HK : Hid (kv % 5 = 4) := hk
    go_enter Try.func14, Try.ntmps14
    go_wp2_with fail
    refine (itoa_any n w h1 h2).mono ?_
    rintro e w1 ⟨v, l, rfl, hown, hb, hg, hne, hl⟩
    have hbz := hb.size
    go_wp2_with (at_builtin; go_must (refine wpList_append_own _ rfl _ _ 22 rfl w.heap.size 5 i0 (.int .u8 0) 1 1 Try.underlying22 hi hz0 hz1 hz2 rfl (by decide) _ _ _ rfl (hown.alloc _) ⟨w1.heap.size, 0, none⟩ 4 4 (Lib.byteCells [69, 43, 49, 50]) rfl rfl (cells_new _ (Lib.byteCells [69, 43, 49, 50]) _) (byteCells_one _) (by unfold maxLen; omega) (by omega) (by simp; omega) ?_))
    intro v' w2 hown2 hgrow2 _
    obtain ⟨hown3, hbel3⟩ := app_end hb hbz hown hown2 rfl hgrow2
    clear hown2 hgrow2
    go_wp2
    go_ret
    exact ⟨v', l ++ [69, 43, 49, 50], rfl, hown3, hbel3, by simp; omega, .inr ⟨by have := HK.out; omega, allGood_append hg (by show ∀ c ∈ [69, 43, 49, 50], good c = true; decide), by simp⟩⟩

def ZzPost (N : Nat) (w : World) (e : Ending) (w' : World) : Prop := ∃ b, e = .returned (.bool b) ∧ w = w' ∧ (b = true → N ≤ 1048576)
theorem ZzPost.no (N : Nat) (w : World) : ZzPost N w (.returned (.bool false)) w := ⟨false, rfl, rfl, by simp⟩
theorem ZzPost.yes (N : Nat) (w : World) (h : N ≤ 1048576) : ZzPost N w (.returned (.bool true)) w := ⟨true, rfl, rfl, fun _ => h⟩

set_option maxHeartbeats 400000 in
theorem zzBytes_scalar (a a' : Option Addr) (l c l' c' : Nat) (n kv dv : Int) (s : ByteArray) (w : World) (h0 : l ≤ maxLen) (h1 : l' ≤ maxLen) (hs : s.size ≤ maxLen) :
    Calls Try.prog 13 #[.slice a l c, .int .i64 n, .int .u8 kv, .string s, .int .u8 dv, .slice a' l' c'] w (ZzPost (l + s.size + l') w) := by
  unfold maxLen at h0 h1 hs
  go_enter Try.func13, Try.ntmps13
  go_wp2
  all_goals first | (go_ret; exact ZzPost.no _ _) | (go_ret; exact ZzPost.yes _ _ (by omega))

end Go.Proofs.Qxb6600766a
