import Derived.Test.Qxb6601551aLeaf
namespace Go.Proofs.Qxb6601551a
open Go.RowKit
set_option linter.unusedVariables false

theorem bytesOf_u8 (l : List UInt8) : Lib.bytesOf (l.map fun c => (c.toNat : Int)) = l := by
  rw [Lib.bytesOf, List.map_map]
  exact (List.map_congr_left (g := id) (fun c _ => by simp)).trans (List.map_id l)

theorem u8v_drop (l : List UInt8) (p i : Nat) : u8v (l.drop p) i = u8v l (p + i) := by
  simp [u8v, List.getD_eq_getElem?_getD, List.getElem?_drop]

def LsPost (l : List UInt8) (k : Int) (w : World) (e : Ending) (w' : World) : Prop := e = .returned (.int .i64 (ls l k.toNat)) ∧ w = w'

theorem index_any (g o n c : Nat) (l : List UInt8) (w : World) (hx : l.length = n) (hc : ∀ i, i < n → w.cell? ⟨g, o + i, none⟩ = some (.int .u8 (u8v l i))) :
    Calls Try.prog 18 #[.slice (some ⟨g, o, none⟩) n c, .int .u8 10] w fun e w' => e = .returned (.int .i64 (Lib.indexByte l 10)) ∧ w = w' := by
  have h := Try.bytes_IndexByte g o n c (l.map fun c => (c.toNat : Int)) 10 w (by simpa using hx) (fun i hi => by
    rw [hc i hi]
    have : i < l.length := by omega
    simp [u8v, List.getD_eq_getElem?_getD, this])
  rw [bytesOf_u8] at h
  refine h.mono ?_
  rintro e w' ⟨rfl, rfl⟩
  exact ⟨rfl, rfl⟩

set_option maxHeartbeats 1000000 in
theorem line_nil (k : Int) (w : World) (hb : -9223372036854775808 ≤ k ∧ k ≤ 9223372036854775807) :
    Calls Try.prog 16 #[.slice none 0 0, .int .i64 k] w (LsPost [] k w) := by
  have hls : ls [] k.toNat = 0 := by have := ls_le [] k.toNat; simpa using this
  have HLS : Hid (ls [] k.toNat = 0) := hls
  clear hls
  go_enter Try.func16, Try.ntmps16
  go_wp2
  go_loopw [5, 8] (fun a c wr => a = .int .i64 0 ∧ c = .int .i64 0 ∧ wr = w) (fun c _ _ => 0)
  case atStart => exact ⟨rfl, rfl, rfl⟩
  case round =>
    obtain ⟨rfl, rfl, rfl⟩ := hrel
    by_cases h : 0 < k
    · go_wp2_with fail
      refine (Try.bytes_IndexByte_nil 10 _).mono ?_
      rintro e w' ⟨rfl, rfl⟩
      go_wp2
      go_ret
      exact ⟨by rw [HLS.out]; rfl, rfl⟩
    · go_wp2
      go_ret
      exact ⟨by rw [HLS.out]; rfl, rfl⟩

set_option maxHeartbeats 2000000 in
theorem line_row (g : Nat) (l : List UInt8) (k : Int) (w : World) (hn : l.length ≤ 1048576) (hb : -9223372036854775808 ≤ k ∧ k ≤ 9223372036854775807)
    (hc : ∀ i, i < l.length → w.cell? ⟨g, i, none⟩ = some (.int .u8 (u8v l i))) :
    Calls Try.prog 16 #[.slice (some ⟨g, 0, none⟩) l.length l.length, .int .i64 k] w (LsPost l k w) := by
  have HC : Hid _ := hc
  clear hc
  go_enter Try.func16, Try.ntmps16
  go_wp2
  go_loopw [5, 8] (fun a c wr => ∃ j : Nat, Hid ((j : Int) ≤ k ∨ j = 0) ∧ a = .int .i64 (ls l j) ∧ c = .int .i64 j ∧ wr = w) (fun _ c _ => (k - intOf c).toNat)
  case atStart => exact ⟨0, .inr rfl, rfl, rfl, rfl⟩
  case round =>
    obtain ⟨j, HJ, rfl, rfl, rfl⟩ := hrel
    by_cases h : (j : Int) < k
    · have hle := ls_le l j
      have HS : Hid _ := ls_step l j
      have HE : Hid _ := ls_end l (j + 1)
      generalize hp : ls l j = p at *
      have HP : Hid _ := hp
      clear hp
      have HK : Hid (k.toNat = j + (k.toNat - j) ∧ k.toNat = j + 1 + (k.toNat - (j + 1))) := by constructor <;> omega
      by_cases hpn : p = l.length
      · subst hpn
        go_wp2_with fail
        refine (index_any g 0 0 0 [] _ rfl (fun i hi => by omega)).mono ?_
        rintro e w' ⟨rfl, rfl⟩
        rw [show Lib.indexByte [] 10 = -1 from rfl]
        go_wp2
        go_ret
        exact ⟨by rw [HK.out.1, ls_end l j HP.out]; rfl, rfl⟩
      · go_wp2_with fail
        refine (index_any g p (l.length - p) (l.length - p) (l.drop p) _ (List.length_drop ..) (fun i hi => ?_)).mono ?_
        · rw [HC.out (p + i) (by omega), u8v_drop]
        rintro e w' ⟨rfl, rfl⟩
        rcases HS.out with ⟨_, h1, h2⟩ | ⟨pre, post, h1, _, h2, h3⟩
        · rw [h1]
          have H2 : Hid _ := h2
          clear h2
          go_wp2
          go_ret
          exact ⟨by rw [HK.out.2, HE.out H2.out]; rfl, rfl⟩
        · rw [h2]
          have hq : p + pre.length < l.length := by
            have := congrArg List.length h1
            simp only [List.length_drop, List.length_append, List.length_cons] at this
            omega
          have H3 : Hid _ := h3
          clear h1 h2 h3
          generalize pre.length = q at *
          go_wp2
          go_roundw
          case rel =>
            refine ⟨j + 1, .inl (by omega), by rw [H3.out]; go_num, by go_num, trivial⟩
          case measure => simp [intOf]; omega
    · go_wp2
      go_ret
      have : k.toNat = j := by have := HJ.out; omega
      exact ⟨by rw [this]; rfl, rfl⟩

set_option maxHeartbeats 400000 in
theorem line_own (a : Option Addr) (l : List UInt8) (k : Int) (w : World) (hn : l.length ≤ 1048576) (hb : -9223372036854775808 ≤ k ∧ k ≤ 9223372036854775807) (h : Own w a l) :
    Calls Try.prog 9 #[.slice a l.length l.length, .int .i64 k] w (LsPost l k w) := by
  have key : Calls Try.prog 16 #[.slice a l.length l.length, .int .i64 k] w (LsPost l k w) := by
    rcases h with ⟨rfl, rfl⟩ | ⟨g, rfl, hc⟩
    · exact line_nil k w hb
    · exact line_row g l k w hn hb hc
  clear h
  go_enter Try.func9, Try.ntmps9
  go_wp2_with fail
  refine key.mono ?_
  rintro e w' ⟨rfl, rfl⟩
  go_wp2
  go_ret
  exact ⟨rfl, rfl⟩

end Go.Proofs.Qxb6601551a
