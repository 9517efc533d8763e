import Derived.Test.Qxb6600766aRows
import Derived.Test.Qxb6600766aShelf
import Derived.Lib.Bytealg
import Derived.WalkKit
import Derived.WalkSpells
import Derived.WalkLawsBesides
import Derived.Laws.CopyOwn
import Derived.Below
namespace Go.Proofs.Qxb6600766a
open Go.RowKit
set_option linter.unusedVariables false

def isSep (c : UInt8) : Bool := ((c.toNat : Int) == 44) || ((c.toNat : Int) == 125) || ((c.toNat : Int) == 32) || ((c.toNat : Int) == 9) || ((c.toNat : Int) == 10) || ((c.toNat : Int) == 13)

set_option maxHeartbeats 400000 in
theorem isSep_any (c : UInt8) (w : World) : Calls Try.prog 17 #[.int .u8 c.toNat] w fun e w' => e = .returned (.bool (isSep c)) ∧ w = w' := by
  obtain ⟨b, hb⟩ : ∃ b, isSep c = b := ⟨_, rfl⟩
  rw [hb]
  have HB : Hid (isSep c = b) := hb
  clear hb
  go_enter Try.func17, Try.ntmps17
  go_wp2
  all_goals
    go_ret
    refine ⟨?_, rfl⟩
    rw [← HB.out]
    simp [isSep, *]

theorem toNat_beq (c : UInt8) (n : Nat) (hn : n < 256) : ((c.toNat : Int) == (n : Int)) = (UInt8.ofNat n == c) := by
  rw [Bool.eq_iff_iff]
  simp only [beq_iff_eq]
  constructor
  · intro h
    have : c.toNat = n := by omega
    rw [← this, UInt8.ofNat_toNat]
  · intro h
    rw [← h, UInt8.toNat_ofNat']
    omega

theorem sepIdx (c : UInt8) : (isSep c = false → Lib.indexByte [44, 125, 32, 9, 10, 13] c = -1) ∧ (isSep c = true → ∃ n : Nat, Lib.indexByte [44, 125, 32, 9, 10, 13] c = n) := by
  have e1 := toNat_beq c 44 (by decide)
  have e2 := toNat_beq c 125 (by decide)
  have e3 := toNat_beq c 32 (by decide)
  have e4 := toNat_beq c 9 (by decide)
  have e5 := toNat_beq c 10 (by decide)
  have e6 := toNat_beq c 13 (by decide)
  have hs : isSep c = (((44 : UInt8) == c) || ((125 : UInt8) == c) || ((32 : UInt8) == c) || ((9 : UInt8) == c) || ((10 : UInt8) == c) || ((13 : UInt8) == c)) := by
    unfold isSep
    exact congr (congrArg or (congr (congrArg or (congr (congrArg or (congr (congrArg or (congr (congrArg or e1) e2)) e3)) e4)) e5)) e6
  rw [hs]
  cases h1 : ((44 : UInt8) == c)
  · cases h2 : ((125 : UInt8) == c)
    · cases h3 : ((32 : UInt8) == c)
      · cases h4 : ((9 : UInt8) == c)
        · cases h5 : ((10 : UInt8) == c)
          · cases h6 : ((13 : UInt8) == c)
            · exact ⟨fun _ => by simp [Lib.indexByte, h1, h2, h3, h4, h5, h6], fun h => by simp at h⟩
            · exact ⟨fun h => by simp at h, fun _ => ⟨5, by simp [Lib.indexByte, h1, h2, h3, h4, h5, h6]⟩⟩
          · exact ⟨fun h => by simp at h, fun _ => ⟨4, by simp [Lib.indexByte, h1, h2, h3, h4, h5]⟩⟩
        · exact ⟨fun h => by simp at h, fun _ => ⟨3, by simp [Lib.indexByte, h1, h2, h3, h4]⟩⟩
      · exact ⟨fun h => by simp at h, fun _ => ⟨2, by simp [Lib.indexByte, h1, h2, h3]⟩⟩
    · exact ⟨fun h => by simp at h, fun _ => ⟨1, by simp [Lib.indexByte, h1, h2]⟩⟩
  · exact ⟨fun h => by simp at h, fun _ => ⟨0, by simp [Lib.indexByte, h1]⟩⟩

theorem ix_raw (c : UInt8) (w : World) : Calls Try.prog 29 #[.string ⟨#[44, 125, 32, 9, 10, 13]⟩, .int .u8 c.toNat] w fun e w' => e = .returned (.int .i64 (Lib.indexByte [44, 125, 32, 9, 10, 13] c)) ∧ w = w' := by
  have := Try.strings_IndexByte ⟨#[44, 125, 32, 9, 10, 13]⟩ c.toNat w
  have e : (Int.toNat (c.toNat : Int)).toUInt8 = c := by rw [Int.toNat_natCast]; exact UInt8.ofNat_toNat
  rw [e] at this
  exact this.mono fun e w' h => ⟨h.1, h.2.symm⟩
theorem ix_no (c : UInt8) (w : World) (h : isSep c = false) : Calls Try.prog 29 #[.string ⟨#[44, 125, 32, 9, 10, 13]⟩, .int .u8 c.toNat] w fun e w' => e = .returned (.int .i64 (-1)) ∧ w = w' := by
  have := ix_raw c w
  rw [(sepIdx c).1 h] at this
  exact this
theorem ix_yes (c : UInt8) (w : World) (h : isSep c = true) : Calls Try.prog 29 #[.string ⟨#[44, 125, 32, 9, 10, 13]⟩, .int .u8 c.toNat] w fun e w' => ∃ n : Nat, e = .returned (.int .i64 n) ∧ w = w' := by
  have := ix_raw c w
  obtain ⟨n, hn⟩ := (sepIdx c).2 h
  rw [hn] at this
  exact this.mono fun e w' h => ⟨n, h⟩

/-- The cells from ⟨b, off⟩ on hold the bytes l. -/
def Holds (w : World) (b off : Nat) (l : List UInt8) : Prop := ∀ i, i < l.length → w.cell? ⟨b, off + i, none⟩ = some (.int .u8 (l.getD i 0).toNat)

def EndPost (l : List UInt8) (at_ : Nat) (w : World) (e : Ending) (w' : World) : Prop :=
  ∃ n : Nat, e = .returned (.int .i64 n) ∧ w = w' ∧ at_ ≤ n ∧ n ≤ l.length ∧ (∀ j, at_ ≤ j → j < n → isSep (l.getD j 0) = false) ∧ (n < l.length → isSep (l.getD n 0) = true)

set_option maxHeartbeats 1000000 in
theorem valueEnd_scalar (b off cap : Nat) (l : List UInt8) (at_ : Nat) (w : World) (hl : l.length ≤ 1099511627776) (hat : at_ < l.length) (hc : Holds w b off l)
    (h34 : (((l.getD at_ 0).toNat : Int) != 34) = true) (h123 : (((l.getD at_ 0).toNat : Int) != 123) = true) (h91 : (((l.getD at_ 0).toNat : Int) != 91) = true) :
    Calls Try.prog 26 #[.slice (some ⟨b, off, none⟩) l.length cap, .int .i64 at_] w (EndPost l at_ w) := by
  have hc0 := hc at_ hat
  obtain ⟨c0, hc0'⟩ : ∃ c, l.getD at_ 0 = c := ⟨_, rfl⟩
  rw [hc0'] at hc0 h34 h123 h91
  clear hc0'
  go_enter Try.func26, Try.ntmps26
  go_wp2
  go_loop [5] (fun i => ∃ k : Nat, at_ ≤ k ∧ k ≤ l.length ∧ i = .int .i64 k ∧ ∀ j, at_ ≤ j → j < k → isSep (l.getD j 0) = false) (fun i => l.length - (intOf i).toNat)
  case atStart => exact ⟨at_, by omega, by omega, rfl, fun j h1 h2 => by omega⟩
  case round =>
    obtain ⟨k, hk1, hk2, rfl, hn⟩ := hrel
    have HN : Hid (∀ j, at_ ≤ j → j < k → isSep (l.getD j 0) = false) := hn
    clear hn
    by_cases hlt : k < l.length
    · have hck := hc k hlt
      obtain ⟨c, hcc⟩ : ∃ c, l.getD k 0 = c := ⟨_, rfl⟩
      rw [hcc] at hck
      have HC : Hid (l.getD k 0 = c) := hcc
      clear hcc
      cases hs : isSep c
      · have HS : Hid (isSep c = false) := hs
        clear hs
        go_wp2_with (go_at_call 29; refine (ix_no c _ HS.out).mono ?_; rintro e w' ⟨rfl, rfl⟩)
        go_round
        case rel =>
          refine ⟨k + 1, by omega, by omega, by go_num, fun j h1 h2 => ?_⟩
          by_cases e : j = k
          · rw [e, HC.out]; exact HS.out
          · exact HN.out j h1 (by omega)
        case measure => simp [intOf]; omega
      · have HS : Hid (isSep c = true) := hs
        clear hs
        go_wp2_with (go_at_call 29; refine (ix_yes c _ HS.out).mono ?_; rintro e w' ⟨n, rfl, rfl⟩)
        go_ret
        exact ⟨k, rfl, rfl, hk1, hk2, HN.out, fun _ => by rw [HC.out]; exact HS.out⟩
    · go_wp2
      go_ret
      exact ⟨k, rfl, rfl, hk1, hk2, HN.out, fun h => absurd h hlt⟩

set_option maxHeartbeats 400000 in
theorem zzValueEnd_scalar (b off cap : Nat) (l : List UInt8) (at_ : Nat) (w : World) (hl : l.length ≤ 1099511627776) (hat : at_ < l.length) (hc : Holds w b off l)
    (h34 : (((l.getD at_ 0).toNat : Int) != 34) = true) (h123 : (((l.getD at_ 0).toNat : Int) != 123) = true) (h91 : (((l.getD at_ 0).toNat : Int) != 91) = true) :
    Calls Try.prog 12 #[.slice (some ⟨b, off, none⟩) l.length cap, .int .i64 at_] w (EndPost l at_ w) := by
  go_enter Try.func12, Try.ntmps12
  go_wp2_with fail
  refine (valueEnd_scalar b off cap l at_ w hl hat hc h34 h123 h91).mono ?_
  rintro e w' ⟨n, rfl, rfl, r⟩
  have R : Hid _ := r
  clear r
  go_wp2
  go_ret
  exact ⟨n, rfl, rfl, R.out⟩

end Go.Proofs.Qxb6600766a
