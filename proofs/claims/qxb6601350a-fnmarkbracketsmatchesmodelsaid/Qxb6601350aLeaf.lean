import Derived.Test.Qxb6601350aRows
import Derived.Test.Qxb6601350aPairs
import Derived.Test.Qxb6601350aShelf
import Derived.WalkKit
import Derived.WalkSpells
import Derived.WalkLawsBesides
import Derived.Below
import Derived.BigQuiet
namespace Go.Proofs.Qxb6601350a
open Go.RowKit
set_option linter.unusedVariables false

def Shows (B : Nat) (w : World) (a : Option Addr) (len : Nat) (f : Nat → Value) : Prop :=
  ∀ i, i < len → ∃ b off, a = some ⟨b, off, none⟩ ∧ b < B ∧ w.cell? ⟨b, off + i, none⟩ = some (f i)
theorem Shows.below {B : Nat} {w w' : World} {a : Option Addr} {len : Nat} {f : Nat → Value} (h : Shows B w a len f) (hb : Below B w w') : Shows B w' a len f := by
  intro i hi
  obtain ⟨b, off, h1, h2, h3⟩ := h i hi
  exact ⟨b, off, h1, h2, (hb.cell h2).trans h3⟩

def ZzPost (N : Nat) (w : World) (e : Ending) (w' : World) : Prop := ∃ b, e = .returned (.bool b) ∧ w = w' ∧ (b = true → N ≤ 1048576)
theorem ZzPost.no (N : Nat) (w : World) : ZzPost N w (.returned (.bool false)) w := ⟨false, rfl, rfl, by simp⟩
theorem ZzPost.yes (N : Nat) (w : World) (h : N ≤ 1048576) : ZzPost N w (.returned (.bool true)) w := ⟨true, rfl, rfl, fun _ => h⟩

set_option maxHeartbeats 400000 in
theorem zzBytes_model (t m : ByteArray) (a : Option Addr) (len cap : Nat) (w : World) (h0 : t.size ≤ maxLen) (h1 : m.size ≤ maxLen) (h2 : len ≤ maxLen) :
    Calls Try.prog 14 #[.string t, .string m, .slice a len cap] w (ZzPost (t.size + m.size + len) w) := by
  unfold maxLen at h0 h1 h2
  go_enter Try.func14, Try.ntmps14
  go_wp2
  all_goals first | (go_ret; exact ZzPost.no _ _) | (go_ret; exact ZzPost.yes _ _ (by omega))

set_option maxHeartbeats 400000 in
theorem zzBytes_settles (t m : ByteArray) (a : Option Addr) (len cap : Nat) (w : World) (h0 : t.size ≤ maxLen) (h1 : m.size ≤ maxLen) (h2 : len ≤ maxLen) :
    Calls Try.prog 19 #[.string t, .string m, .slice a len cap] w (ZzPost (t.size + m.size + len) w) := by
  unfold maxLen at h0 h1 h2
  go_enter Try.func19, Try.ntmps19
  go_wp2
  all_goals first | (go_ret; exact ZzPost.no _ _) | (go_ret; exact ZzPost.yes _ _ (by omega))

def Fits (n m len : Nat) (f : Nat → Int) : Prop := m = n ∧ ∀ i, i < len → 0 ≤ f i ∧ f i < n ∧ (0 < i → f (i - 1) < f i)
def FitPost (n m len : Nat) (f : Nat → Int) (w : World) (e : Ending) (w' : World) : Prop :=
  ∃ b, e = .returned (.bool b) ∧ Below w.heap.size w w' ∧ (b = true → Fits n m len f)
theorem FitPost.no {n m len : Nat} {f : Nat → Int} {w w' : World} (h : Below w.heap.size w w') : FitPost n m len f w (.returned (.bool false)) w' := ⟨false, rfl, h, by simp⟩
theorem FitPost.yes {n m len : Nat} {f : Nat → Int} {w w' : World} (h : Below w.heap.size w w') (hf : Fits n m len f) : FitPost n m len f w (.returned (.bool true)) w' := ⟨true, rfl, h, fun _ => hf⟩

set_option maxHeartbeats 1000000 in
theorem fit_any (t m : ByteArray) (a : Option Addr) (len cap : Nat) (f : Nat → Int) (w : World) (h0 : t.size ≤ 1048576) (h1 : m.size ≤ 1048576) (h2 : len ≤ 1048576)
    (hs : Shows w.heap.size w a len (fun i => .int .i64 (f i))) (hb : ∀ i, -9223372036854775808 ≤ f i ∧ f i ≤ 9223372036854775807) :
    Calls Try.prog 15 #[.string t, .string m, .slice a len cap] w (FitPost t.size m.size len f w) := by
  by_cases hms : m.size = t.size
  · have hne : ((m.size : Int) != (t.size : Int)) = false := by simp [hms]
    have HMS : Hid (m.size = t.size) := hms
    clear hms
    go_enter Try.func15, Try.ntmps15
    go_wp2
    go_loopw [7] (fun i wr => ∃ k : Nat, k ≤ len ∧ i = .int .i64 k ∧ Hid (∀ i, i < k → 0 ≤ f i ∧ f i < t.size ∧ (0 < i → f (i - 1) < f i)) ∧ Below w.heap.size w wr) (fun i _ => len - (intOf i).toNat)
    case atStart => exact ⟨0, by omega, rfl, fun i hi => by omega, Below.refl _ _⟩
    case round =>
      obtain ⟨k, hk, rfl, HF, hbel⟩ := hrel
      by_cases hlt : k < len
      · obtain ⟨b, off, rfl, hbb, h3⟩ := (hs.below hbel) k hlt
        have h3' : wr.cell? ⟨b, off + k, none⟩ = some (.int .i64 (f k)) := h3
        have hbk := hb k
        clear h3 hb
        by_cases g1 : f k < 0
        · go_wp2
          go_ret
          exact FitPost.no hbel
        · by_cases g2 : (t.size : Int) ≤ f k
          · go_wp2
            all_goals
              go_ret
              exact FitPost.no hbel
          · by_cases hk0 : k = 0
            · subst hk0
              have h3'' : wr.cell? ⟨b, off, none⟩ = some (.int .i64 (f 0)) := h3'
              clear h3'
              go_wp2
              go_quiet (fail)
              go_wp2
              go_roundw
              case rel =>
                refine ⟨1, by omega, by go_num, fun i hi => ?_, below_drewN hbel _⟩
                obtain rfl : i = 0 := by omega
                exact ⟨by omega, by omega, fun h => by omega⟩
              case measure => simp [intOf]; omega
            · obtain ⟨k', rfl⟩ : ∃ k', k = k' + 1 := ⟨k - 1, by omega⟩
              obtain ⟨b2, off2, hab, hbb2, h4⟩ := (hs.below hbel) k' (by omega)
              simp at hab
              obtain ⟨rfl, rfl⟩ := hab
              have h4' : wr.cell? ⟨b, off + k', none⟩ = some (.int .i64 (f k')) := h4
              have d0 : (0 : Int) < ((k' + 1 : Nat) : Int) := by omega
              clear h4 hk0
              by_cases g3 : f (k' + 1) ≤ f k'
              · go_wp2
                go_quiet (fail)
                go_wp2
                go_ret
                exact FitPost.no (below_drewN hbel _)
              · go_wp2
                go_quiet (fail)
                go_wp2
                go_roundw
                case rel =>
                  refine ⟨k' + 1 + 1, by omega, by go_num, fun i hi => ?_, below_drewN hbel _⟩
                  by_cases e : i = k' + 1
                  · subst e; exact ⟨by omega, by omega, fun _ => by rw [Nat.add_sub_cancel]; omega⟩
                  · exact HF.out i (by omega)
                case measure => simp [intOf]; omega
      · go_wp2
        go_ret
        obtain rfl : k = len := by omega
        exact FitPost.yes hbel ⟨HMS.out, HF.out⟩
  · have hne : ((m.size : Int) != (t.size : Int)) = true := by simp; omega
    go_enter Try.func15, Try.ntmps15
    go_wp2
    go_ret
    exact FitPost.no (Below.refl _ _)

theorem info3 : (Try.prog.info? 3).map (fun i => (i.zero, i.size, i.bytes)) = some (some (.int .i64 0), 1, 8) := by kernel_rfl

/-- What cloneOffsets hands back: nothing, or a row of the call's own with the same numbers. -/
def ClonePost (len : Nat) (f : Nat → Int) (w : World) (e : Ending) (w' : World) : Prop :=
  ∃ a' cap', e = .returned (.slice a' len cap') ∧ Below w.heap.size w w' ∧ Shows w'.heap.size w' a' len (fun i => .int .i64 (f i))

set_option maxHeartbeats 1000000 in
theorem clone_any (a : Option Addr) (len cap : Nat) (f : Nat → Int) (w : World) (h2 : len ≤ 1048576) (hn : a = none → len = 0)
    (hs : Shows w.heap.size w a len (fun i => .int .i64 (f i))) :
    Calls Try.prog 16 #[.slice a len cap] w (ClonePost len f w) := by
  obtain ⟨i0, hi, hz0, hz1, hz2⟩ := info_parts info3
  cases a with
  | none =>
    obtain rfl := hn rfl
    have hq := fun w => Lib.run_eql_slice_nil (P := Try.prog) w 25 3 none 0 cap 0 0 Try.underlying25
    go_enter Try.func16, Try.ntmps16
    go_wp2
    go_ret
    exact ⟨none, 0, rfl, Below.refl _ _, fun i hi => by omega⟩
  | some x =>
    have hq := fun w => Lib.run_eql_slice_nil (P := Try.prog) w 25 3 (some x) len cap 0 0 Try.underlying25
    go_enter Try.func16, Try.ntmps16
    go_wp2_with (at_make; go_must (refine wpList_make_full _ rfl _ _ 25 rfl w.heap.size 3 i0 (.int .i64 0) 1 Try.underlying25 hi hz0 hz1 .i64 .i64 _ _ len rfl rfl rfl rfl ?a1 ?a2 ?a3 ?_))
    case a1 => rw [hz2]; omega
    case a2 => unfold maxLen; omega
    case a3 => exact Nat.le_refl _
    intro w1 hown1 hgrow1
    have hbel1 : Below w.heap.size w w1 := (Below.refl _ w).grown hgrow1 (Nat.le_refl _) (fun k hk => by cases hk)
    clear hgrow1 hq hn
    go_wp2
    go_loopw [4] (fun i wr => ∃ (k : Nat) (cur : List Value), k ≤ len ∧ i = .int .i64 k ∧ wr.ownsRow w.heap.size 3 1 (.slice (some ⟨w.heap.size, 0, none⟩) len len) len cur ∧ Hid (∀ i, i < k → cur[i]? = some (.int .i64 (f i))) ∧ Below w.heap.size w wr) (fun i _ => len - (intOf i).toNat)
    case atStart => exact ⟨0, _, by omega, rfl, hown1, fun i hi => by omega, hbel1⟩
    case round =>
      obtain ⟨k, cur, hk, rfl, hown, HC, hbel⟩ := hrel
      have hcl : cur.length = len := by have := hown.1; omega
      by_cases hlt : k < len
      · obtain ⟨b, off, hx, hbb, h3⟩ := (hs.below hbel) k hlt
        obtain rfl : x = ⟨b, off, none⟩ := by simpa using hx
        have h3' : wr.cell? ⟨b, off + k, none⟩ = some (.int .i64 (f k)) := h3
        have hck : wr.cell? ⟨w.heap.size, k, none⟩ = some (cur[k]'(by omega)) := by rw [hown.cellAt k (by omega)]; exact List.getElem?_eq_getElem (by omega)
        have hfz := hown.frozenAt k
        have hst := hown.stored k (.int .i64 (f k))
        clear h3 hx
        generalize cur[k]'(by omega) = ck at hck
        have HST : Hid _ := hst
        clear hst
        go_wp2
        go_roundw
        case rel =>
          refine ⟨k + 1, cur.set k (.int .i64 (f k)), by omega, by go_num, HST.out.1, fun i hi => ?_, hbel.setCell (Nat.le_refl _) _⟩
          by_cases e : i = k
          · subst e; simp [hcl, hlt]
          · rw [List.getElem?_set_ne (by omega)]; exact HC.out i (by omega)
        case measure => simp [intOf]; omega
      · go_wp2
        go_ret
        obtain rfl : k = len := by omega
        refine ⟨some ⟨w.heap.size, 0, none⟩, k, rfl, hbel, fun i hi => ⟨w.heap.size, 0, rfl, (hown.lt _ rfl).2, ?_⟩⟩
        rw [Nat.zero_add, hown.cellAt i (by omega)]
        exact HC.out i hi

end Go.Proofs.Qxb6601350a
