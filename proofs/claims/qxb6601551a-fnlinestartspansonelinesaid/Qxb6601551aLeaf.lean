import Derived.Test.Qxb6601551aRows
import Derived.Test.Qxb6601551aPlain
import Derived.Test.Qxb6601551aShelf
import Derived.WalkKit
import Derived.WalkSpells
import Derived.WalkLawsBesides
import Derived.Below
import Derived.BigQuiet
namespace Go.Proofs.Qxb6601551a
open Go.RowKit
set_option linter.unusedVariables false

def Shows (B : Nat) (w : World) (a : Option Addr) (len : Nat) (f : Nat → Value) : Prop :=
  ∀ i, i < len → ∃ b off, a = some ⟨b, off, none⟩ ∧ b < B ∧ w.cell? ⟨b, off + i, none⟩ = some (f i)
theorem Shows.below {B : Nat} {w w' : World} {a : Option Addr} {len : Nat} {f : Nat → Value} (h : Shows B w a len f) (hb : Below B w w') : Shows B w' a len f := by
  intro i hi
  obtain ⟨b, off, h1, h2, h3⟩ := h i hi
  exact ⟨b, off, h1, h2, (hb.cell h2).trans h3⟩

def ZzPost (N : Nat) (w : World) (e : Ending) (w' : World) : Prop := ∃ b, e = .returned (.bool b) ∧ w = w' ∧ (b = true → N ≤ 1048576)
theorem ZzPost.no (N : Nat) (w : World) : ZzPost N w (.returned (.bool false)) w := ⟨false, rfl, rfl, by simp⟩
theorem ZzPost.yes (N : Nat) (w : World) (h : N ≤ 1048576) : ZzPost N w (.returned (.bool true)) w := ⟨true, rfl, rfl, fun _ => h⟩

set_option maxHeartbeats 400000 in
theorem zzBytes_count (a : Option Addr) (len cap : Nat) (k : Int) (w : World) (h0 : len ≤ maxLen) :
    Calls Try.prog 7 #[.slice a len cap, .int .i64 k] w (ZzPost len w) := by
  unfold maxLen at h0
  go_enter Try.func7, Try.ntmps7
  go_wp2
  all_goals first | (go_ret; exact ZzPost.no _ _) | (go_ret; exact ZzPost.yes _ _ (by omega))

set_option maxHeartbeats 400000 in
theorem zzBytes_spans (a : Option Addr) (len cap : Nat) (k : Int) (w : World) (h0 : len ≤ maxLen) :
    Calls Try.prog 10 #[.slice a len cap, .int .i64 k] w (ZzPost len w) := by
  unfold maxLen at h0
  go_enter Try.func10, Try.ntmps10
  go_wp2
  all_goals first | (go_ret; exact ZzPost.no _ _) | (go_ret; exact ZzPost.yes _ _ (by omega))

theorem info5 : (Try.prog.info? 5).map (fun i => (i.zero, i.size, i.bytes)) = some (some (.int .u8 0), 1, 1) := by kernel_rfl

def u8v (l : List UInt8) (i : Nat) : Int := ((l.getD i 0).toNat : Int)
theorem u8v_bounds (l : List UInt8) (i : Nat) : 0 ≤ u8v l i ∧ u8v l i ≤ 255 := by
  have := (l.getD i 0).toNat_lt
  unfold u8v; omega
theorem u8v_ten (l : List UInt8) (i : Nat) : u8v l i = 10 ↔ l.getD i 0 = 10 := by
  unfold u8v
  constructor
  · intro h
    apply UInt8.toNat_inj.1
    show _ = 10
    omega
  · intro h; rw [h]; rfl

/-- A text that the call made for itself: nil, or a row of its own. -/
def Own (w : World) (a : Option Addr) (l : List UInt8) : Prop :=
  (a = none ∧ l = []) ∨ ∃ g, a = some ⟨g, 0, none⟩ ∧ ∀ i, i < l.length → w.cell? ⟨g, i, none⟩ = some (.int .u8 (u8v l i))

def CopyPost (l : List UInt8) (w : World) (e : Ending) (w' : World) : Prop :=
  ∃ a', e = .returned (.slice a' l.length l.length) ∧ Below w.heap.size w w' ∧ Own w' a' l

set_option maxHeartbeats 1000000 in
theorem copy_any (a : Option Addr) (cap : Nat) (l : List UInt8) (w : World) (h2 : l.length ≤ 1048576) (hn : a = none → l = [])
    (hs : Shows w.heap.size w a l.length (fun i => .int .u8 (u8v l i))) :
    Calls Try.prog 8 #[.slice a l.length cap] w (CopyPost l w) := by
  obtain ⟨i0, hi, hz0, hz1, hz2⟩ := info_parts info5
  cases a with
  | none =>
    obtain rfl := hn rfl
    have hq := fun w => Lib.run_eql_slice_nil (P := Try.prog) w 22 5 none 0 cap 0 0 Try.underlying22
    show Calls Try.prog 8 #[.slice none 0 cap] w (CopyPost [] w)
    go_enter Try.func8, Try.ntmps8
    go_wp2
    go_ret
    exact ⟨none, rfl, Below.refl _ _, .inl ⟨rfl, rfl⟩⟩
  | some x =>
    have hq := fun w => Lib.run_eql_slice_nil (P := Try.prog) w 22 5 (some x) l.length cap 0 0 Try.underlying22
    go_enter Try.func8, Try.ntmps8
    go_wp2_with (at_make; go_must (refine wpList_make_full _ rfl _ _ 22 rfl w.heap.size 5 i0 (.int .u8 0) 1 Try.underlying22 hi hz0 hz1 .i64 .i64 _ _ l.length rfl rfl rfl rfl ?a1 ?a2 ?a3 ?_))
    case a1 => rw [hz2]; omega
    case a2 => unfold maxLen; omega
    case a3 => exact Nat.le_refl _
    intro w1 hown1 hgrow1
    have hbel1 : Below w.heap.size w w1 := (Below.refl _ w).grown hgrow1 (Nat.le_refl _) (fun k hk => by cases hk)
    clear hgrow1 hq hn
    go_wp2
    go_loopw [4] (fun i wr => ∃ (k : Nat) (cur : List Value), k ≤ l.length ∧ i = .int .i64 k ∧ wr.ownsRow w.heap.size 5 1 (.slice (some ⟨w.heap.size, 0, none⟩) l.length l.length) l.length cur ∧ Hid (∀ i, i < k → cur[i]? = some (.int .u8 (u8v l i))) ∧ Below w.heap.size w wr) (fun i _ => l.length - (intOf i).toNat)
    case atStart => exact ⟨0, _, by omega, rfl, hown1, fun i hi => by omega, hbel1⟩
    case round =>
      obtain ⟨k, cur, hk, rfl, hown, HC, hbel⟩ := hrel
      have hcl : cur.length = l.length := by have := hown.1; omega
      by_cases hlt : k < l.length
      · obtain ⟨b, off, hx, hbb, h3⟩ := (hs.below hbel) k hlt
        obtain rfl : x = ⟨b, off, none⟩ := by simpa using hx
        have h3' : wr.cell? ⟨b, off + k, none⟩ = some (.int .u8 (u8v l k)) := h3
        have hck : wr.cell? ⟨w.heap.size, k, none⟩ = some (cur[k]'(by omega)) := by rw [hown.cellAt k (by omega)]; exact List.getElem?_eq_getElem (by omega)
        have hfz := hown.frozenAt k
        have hst := hown.stored k (.int .u8 (u8v l k))
        clear h3 hx
        generalize cur[k]'(by omega) = ck at hck
        have HST : Hid _ := hst
        clear hst
        go_wp2
        go_roundw
        case rel =>
          refine ⟨k + 1, cur.set k (.int .u8 (u8v l k)), by omega, by go_num, HST.out.1, fun i hi => ?_, hbel.setCell (Nat.le_refl _) _⟩
          by_cases e : i = k
          · subst e; simp [hcl, hlt]
          · rw [List.getElem?_set_ne (by omega)]; exact HC.out i (by omega)
        case measure => simp [intOf]; omega
      · go_wp2
        go_ret
        obtain rfl : k = l.length := by omega
        refine ⟨some ⟨w.heap.size, 0, none⟩, rfl, hbel, .inr ⟨w.heap.size, rfl, fun i hi => ?_⟩⟩
        rw [hown.cellAt i (by omega)]
        exact HC.out i hi

end Go.Proofs.Qxb6601551a
