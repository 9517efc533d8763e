import Derived.Test.Qxb6600766aQuote
import Derived.Test.Qxb6600766aItoa
namespace Go.Proofs.Qxb6600766a
open Go.RowKit
set_option linter.unusedVariables false

theorem drop_cons {l : List UInt8} {p : Nat} {c : UInt8} {r : List UInt8} (h : l.drop p = c :: r) : p < l.length ∧ l.getD p 0 = c ∧ l.drop (p + 1) = r := by
  have h1 : p < l.length := by
    rcases Nat.lt_or_ge p l.length with h' | h'
    · exact h'
    · rw [List.drop_of_length_le h'] at h; cases h
  rw [List.drop_eq_getElem_cons h1] at h
  injection h with h2 h3
  exact ⟨h1, by simp [h1, h2], h3⟩

theorem toNat_ne {c : UInt8} {n : Nat} (hn : n < 256) (h : c ≠ UInt8.ofNat n) : (c.toNat : Int) ≠ n := by
  intro e
  apply h
  have : c.toNat = n := by omega
  rw [← this, UInt8.ofNat_toNat]

theorem ret_int {k : IntKind} {a b : Int} (h : a = b) : Ending.returned (.int k a) = .returned (.int k b) := by rw [h]

set_option maxHeartbeats 1000000 in
theorem valueEnd_string (b off cap : Nat) (l : List UInt8) (at_ : Nat) (body post : List UInt8) (w : World) (hl : l.length ≤ 1099511627776) (hc : Holds w b off l)
    (hd : l.drop at_ = 34 :: (body ++ 34 :: post)) (hok : okBody body = true) :
    Calls Try.prog 26 #[.slice (some ⟨b, off, none⟩) l.length cap, .int .i64 at_] w fun e w' => e = .returned (.int .i64 ((at_ + 1 + body.length + 1 : Nat) : Int)) ∧ w = w' := by
  obtain ⟨hat, hg, hd1⟩ := drop_cons hd
  have hc0 := hc at_ hat
  rw [hg] at hc0
  have hc0' : w.cell? ⟨b, off + at_, none⟩ = some (.int .u8 34) := hc0
  have HD : Hid (l.drop (at_ + 1) = body ++ 34 :: post) := hd1
  have HO : Hid (okBody body = true) := hok
  clear hc0 hg hd hd1 hok
  go_enter Try.func26, Try.ntmps26
  go_wp2
  go_loop [6, 7] (fun d i => d = .int .i64 0 ∧ i = .int .i64 at_) (fun _ _ => 0)
  case atStart => exact ⟨rfl, rfl⟩
  case round =>
    obtain ⟨rfl, rfl⟩ := hrel
    go_wp2
    go_loop [7] (fun i => ∃ (p : Nat) (rest : List UInt8), i = .int .i64 p ∧ Hid (l.drop p = rest ++ 34 :: post ∧ okBody rest = true) ∧ p + rest.length = at_ + 1 + body.length) (fun i => l.length - (intOf i).toNat)
    case atStart => exact ⟨at_ + 1, body, by go_num, ⟨HD.out, HO.out⟩, rfl⟩
    case round =>
      obtain ⟨p, rest, rfl, HR, hpe⟩ := hrel
      match rest, HR, hpe with
      | [], HR, hpe =>
        obtain ⟨q1, q2, _⟩ := drop_cons (l := l) (p := p) (c := 34) (r := post) HR.out.1
        have hcp := hc p q1
        rw [q2] at hcp
        have hcp' : w.cell? ⟨b, off + p, none⟩ = some (.int .u8 34) := hcp
        clear hcp q2 HR
        have hpe' : p = at_ + 1 + body.length := by simpa using hpe
        have HPE : Hid (p = at_ + 1 + body.length) := hpe'
        clear hpe hpe'
        go_wp2
        go_ret
        exact ⟨ret_int (by have := HPE.out; omega), rfl⟩
      | c :: r, HR, hpe =>
        obtain ⟨q1, q2, q3⟩ := drop_cons (l := l) (p := p) (c := c) (r := r ++ 34 :: post) HR.out.1
        have hcp := hc p q1
        rw [q2] at hcp
        simp only [List.length_cons] at hpe
        by_cases h92 : c = 92
        · subst h92
          have hcp' : w.cell? ⟨b, off + p, none⟩ = some (.int .u8 92) := hcp
          clear hcp q2
          match r, HR, hpe, q3 with
          | [], HR, hpe, q3 => exact absurd HR.out.2 (by decide)
          | x :: r', HR, hpe, q3 =>
            obtain ⟨q4, q5, q6⟩ := drop_cons (l := l) (p := p + 1) (c := x) (r := r' ++ 34 :: post) q3
            have HR' : Hid (l.drop (p + 2) = r' ++ 34 :: post ∧ okBody r' = true) := ⟨q6, by have := HR.out.2; rw [okBody_esc] at this; exact this⟩
            simp only [List.length_cons] at hpe
            clear HR q3 q5 q6
            go_wp2
            go_round
            case rel => exact ⟨p + 2, r', by go_num, HR', by omega⟩
            case measure => simp [intOf]; omega
        · have h34 : c ≠ 34 := by
            intro e
            have := HR.out.2
            rw [e] at this
            cases r with
            | nil => exact absurd this (by decide)
            | cons x r => simp [okBody] at this
          have HR' : Hid (l.drop (p + 1) = r ++ 34 :: post ∧ okBody r = true) := ⟨q3, by have := HR.out.2; rw [okBody_plain c r h34 h92] at this; exact this⟩
          have n1 : ((c.toNat : Int) != 34) = true := by simpa using toNat_ne (n := 34) (by decide) h34
          have n2 : ((c.toNat : Int) == 92) = false := by simpa using toNat_ne (n := 92) (by decide) h92
          clear HR q2 q3 h92 h34
          go_wp2
          go_round
          case rel => exact ⟨p + 1, r, by go_num, HR', by omega⟩
          case measure => simp [intOf]; omega

set_option maxHeartbeats 400000 in
theorem zzValueEnd_string (b off cap : Nat) (l : List UInt8) (at_ : Nat) (body post : List UInt8) (w : World) (hl : l.length ≤ 1099511627776) (hc : Holds w b off l)
    (hd : l.drop at_ = 34 :: (body ++ 34 :: post)) (hok : okBody body = true) :
    Calls Try.prog 12 #[.slice (some ⟨b, off, none⟩) l.length cap, .int .i64 at_] w fun e w' => e = .returned (.int .i64 ((at_ + 1 + body.length + 1 : Nat) : Int)) ∧ w = w' := by
  have HD : Hid (l.drop at_ = 34 :: (body ++ 34 :: post) ∧ okBody body = true) := ⟨hd, hok⟩
  clear hd hok
  go_enter Try.func12, Try.ntmps12
  go_wp2_with fail
  refine (valueEnd_string b off cap l at_ body post w hl hc HD.out.1 HD.out.2).mono ?_
  rintro e w' ⟨rfl, rfl⟩
  go_wp2
  go_ret
  exact ⟨rfl, rfl⟩

set_option maxHeartbeats 400000 in
theorem word_any (v : Value) (B : Nat) (x : Int) (w : World) (hB : B ≤ w.heap.size) (hown : w.ownsRow B 5 1 v 0 []) :
    Calls Try.prog 25 #[v, .int .u8 x] w fun e w' => ∃ v' l, e = .returned v' ∧ w'.ownsRow B 5 1 v' l.length (Lib.byteCells l) ∧ Below B w w' ∧ allGood l ∧ l ≠ [] ∧ l.length ≤ 30 := by
  obtain ⟨i0, hi, hz0, hz1, hz2⟩ := info_parts inf5
  cases e0 : (x == 0)
  · cases e1 : (x == 1)
    · go_enter Try.func25, Try.ntmps25
      go_wp2_with (at_builtin; go_must (refine wpList_append_own _ rfl _ _ 22 rfl B 5 i0 (.int .u8 0) 1 1 Try.underlying22 hi hz0 hz1 hz2 rfl (by decide) _ 0 [] rfl (hown.alloc _) ⟨w.heap.size, 0, none⟩ 5 5 (Lib.byteCells [102, 97, 108, 115, 101]) rfl rfl (cells_new _ (Lib.byteCells [102, 97, 108, 115, 101]) _) (byteCells_one _) (by decide) (by decide) (by simp; omega) ?_))
      intro v' w1 h1 hg _
      have hb : Below B w w1 := ((Below.refl _ w).alloc hB _).grown hg (by simp; omega) (fun k hk => (hown.lt k hk).1)
      clear hg
      go_wp2
      go_ret
      exact ⟨v', [102, 97, 108, 115, 101], rfl, h1, hb, by show ∀ c ∈ [102, 97, 108, 115, 101], good c = true; decide, by simp, by simp⟩
    · go_enter Try.func25, Try.ntmps25
      go_wp2_with (at_builtin; go_must (refine wpList_append_own _ rfl _ _ 22 rfl B 5 i0 (.int .u8 0) 1 1 Try.underlying22 hi hz0 hz1 hz2 rfl (by decide) _ 0 [] rfl (hown.alloc _) ⟨w.heap.size, 0, none⟩ 4 4 (Lib.byteCells [116, 114, 117, 101]) rfl rfl (cells_new _ (Lib.byteCells [116, 114, 117, 101]) _) (byteCells_one _) (by decide) (by decide) (by simp; omega) ?_))
      intro v' w1 h1 hg _
      have hb : Below B w w1 := ((Below.refl _ w).alloc hB _).grown hg (by simp; omega) (fun k hk => (hown.lt k hk).1)
      clear hg
      go_wp2
      go_ret
      exact ⟨v', [116, 114, 117, 101], rfl, h1, hb, by show ∀ c ∈ [116, 114, 117, 101], good c = true; decide, by simp, by simp⟩
  · go_enter Try.func25, Try.ntmps25
    go_wp2_with (at_builtin; go_must (refine wpList_append_own _ rfl _ _ 22 rfl B 5 i0 (.int .u8 0) 1 1 Try.underlying22 hi hz0 hz1 hz2 rfl (by decide) _ 0 [] rfl (hown.alloc _) ⟨w.heap.size, 0, none⟩ 4 4 (Lib.byteCells [110, 117, 108, 108]) rfl rfl (cells_new _ (Lib.byteCells [110, 117, 108, 108]) _) (byteCells_one _) (by decide) (by decide) (by simp; omega) ?_))
    intro v' w1 h1 hg _
    have hb : Below B w w1 := ((Below.refl _ w).alloc hB _).grown hg (by simp; omega) (fun k hk => (hown.lt k hk).1)
    clear hg
    go_wp2
    go_ret
    exact ⟨v', [110, 117, 108, 108], rfl, h1, hb, by show ∀ c ∈ [110, 117, 108, 108], good c = true; decide, by simp, by simp⟩

def DelimPost (w : World) (e : Ending) (w' : World) : Prop := ∃ c : UInt8, e = .returned (.int .u8 c.toNat) ∧ w = w' ∧ isSep c = true
set_option maxHeartbeats 400000 in
theorem delim_any (d : Int) (w : World) : Calls Try.prog 15 #[.int .i64 d] w (DelimPost w) := by
  go_enter Try.func15, Try.ntmps15
  go_wp2
  all_goals
    go_ret
    first
      | exact ⟨44, rfl, rfl, by decide⟩
      | exact ⟨125, rfl, rfl, by decide⟩
      | exact ⟨32, rfl, rfl, by decide⟩
      | exact ⟨9, rfl, rfl, by decide⟩
      | exact ⟨10, rfl, rfl, by decide⟩
      | exact ⟨13, rfl, rfl, by decide⟩

end Go.Proofs.Qxb6600766a
