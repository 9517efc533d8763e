import Derived.Test.Qxb6600766aJoin
namespace Go.Proofs.Qxb6600766a
open Go.RowKit
set_option linter.unusedVariables false

def hx (v : Int) : UInt8 := UInt8.ofNat (if v < 10 then 48 + v else 87 + v).toNat
theorem hx_low (v : Int) (h0 : 0 ≤ v) (h : v < 10) : ((hx v).toNat : Int) = 48 + v := by
  unfold hx; rw [if_pos h, UInt8.toNat_ofNat']; omega
theorem hx_high (v : Int) (h0 : 10 ≤ v) (h : v ≤ 15) : ((hx v).toNat : Int) = 97 + v - 10 := by
  unfold hx; rw [if_neg (by omega), UInt8.toNat_ofNat']; omega
theorem hx_ok (v : Int) (h0 : 0 ≤ v) (h : v ≤ 15) : hx v ≠ 34 ∧ hx v ≠ 92 := by
  have hr : 48 ≤ (hx v).toNat ∧ ((hx v).toNat ≤ 57 ∨ 97 ≤ (hx v).toNat) := by
    by_cases h1 : v < 10
    · have := hx_low v h0 h1; omega
    · have := hx_high v (by omega) h; omega
  constructor
  · intro e; rw [e] at hr; exact absurd hr (by decide)
  · intro e; rw [e] at hr; exact absurd hr (by decide)

set_option maxHeartbeats 400000 in
theorem hex_any (v : Int) (w : World) (h0 : 0 ≤ v) (h : v ≤ 15) : Calls Try.prog 21 #[.int .u8 v, .bool false] w fun e w' => e = .returned (.int .u8 (hx v).toNat) ∧ w = w' := by
  by_cases h1 : v < 10
  · rw [hx_low v h0 h1]
    go_enter Try.func21, Try.ntmps21
    go_wp2
    go_ret
    exact ⟨rfl, rfl⟩
  · rw [hx_high v (by omega) h]
    go_enter Try.func21, Try.ntmps21
    go_wp2
    go_ret
    exact ⟨rfl, rfl⟩

def unit (c : UInt8) : List UInt8 :=
  if c = 34 ∨ c = 92 then [92, c] else if c.toNat < 32 then [92, 117, 48, 48, hx ((c.toNat : Int) / 16), hx ((c.toNat % 16 : Nat) : Int)] else [c]
def qb : List UInt8 → List UInt8
  | [] => []
  | c :: r => unit c ++ qb r
theorem qb_append (a b : List UInt8) : qb (a ++ b) = qb a ++ qb b := by
  induction a with
  | nil => rfl
  | cons c a ih => simp [qb, ih]
theorem unit_len (c : UInt8) : (unit c).length ≤ 6 := by
  unfold unit
  split
  · simp
  · split <;> simp
theorem qb_len (l : List UInt8) : (qb l).length ≤ 6 * l.length := by
  induction l with
  | nil => simp [qb]
  | cons c l ih => have := unit_len c; simp [qb]; omega

/-- What stands between the quotes: no bare quote; each backslash takes the byte behind it along. -/
def okBody : List UInt8 → Bool
  | [] => true
  | [c] => c != 34 && c != 92
  | c :: x :: r => if c = 92 then okBody r else c != 34 && okBody (x :: r)

theorem okBody_plain (c : UInt8) (r : List UInt8) (h1 : c ≠ 34) (h2 : c ≠ 92) : okBody (c :: r) = okBody r := by
  cases r with
  | nil => simp [okBody, h1, h2]
  | cons x r => simp [okBody, h1, h2]
theorem okBody_esc (x : UInt8) (r : List UInt8) : okBody (92 :: x :: r) = okBody r := by simp [okBody]
theorem okBody_unit (c : UInt8) (r : List UInt8) : okBody (unit c ++ r) = okBody r := by
  unfold unit
  split
  · exact okBody_esc c r
  · rename_i h
    split
    · rename_i h32
      have e1 := hx_ok ((c.toNat : Int) / 16) (by omega) (by omega)
      have e2 := hx_ok ((c.toNat % 16 : Nat) : Int) (by omega) (by omega)
      show okBody (92 :: 117 :: 48 :: 48 :: hx ((c.toNat : Int) / 16) :: hx ((c.toNat % 16 : Nat) : Int) :: r) = _
      rw [okBody_esc, okBody_plain _ _ (by decide) (by decide), okBody_plain _ _ (by decide) (by decide), okBody_plain _ _ e1.1 e1.2, okBody_plain _ _ e2.1 e2.2]
    · exact okBody_plain c r (fun e => h (.inl e)) (fun e => h (.inr e))
theorem okBody_qb (l : List UInt8) : okBody (qb l) = true := by
  induction l with
  | nil => rfl
  | cons c l ih => rw [qb, okBody_unit]; exact ih

theorem cells_new (w : World) (cs : List Value) (t : TypeId) : ∀ j u, cs[j]? = some u → (w.alloc (.cells cs.toArray t)).cell? ((⟨w.heap.size, 0, none⟩ : Addr).add j) = some u := by
  intro j u hj
  have h := heap_alloc_new w (.cells cs.toArray t)
  rw [Go.WideShapes.add_plain]
  unfold World.cell?
  simp only [h]
  simpa using hj

theorem app_step {B m : Nat} {w W w1 : World} {v v' : Value} {l news : List UInt8} {o : Obj} (hbel : Below B w W) (hB : B ≤ W.heap.size) (hown : W.ownsRow B 5 1 v l.length (Lib.byteCells l))
    (hown' : w1.ownsRow B 5 1 v' (l.length + m) (Lib.byteCells l ++ Lib.byteCells news)) (hm : news.length = m) (hgrow : (W.alloc o).grownBy w1 v.ownBlock) :
    w1.ownsRow B 5 1 v' (l ++ news).length (Lib.byteCells (l ++ news)) ∧ Below B w w1 := by
  subst hm
  refine ⟨?_, (hbel.alloc hB o).grown hgrow (by simp; omega) (fun k hk => (hown.lt k hk).1)⟩
  rw [Lib.byteCells_append, List.length_append]; exact hown'

theorem and15 (c : UInt8) : bits .and .u8 (c.toNat : Int) 15 = ((c.toNat % 16 : Nat) : Int) := by
  have h := c.toNat_lt
  have e : (15 : Int) = ((15 : Nat) : Int) := rfl
  rw [e, u8_and_nat _ _ (by omega) (by decide), nat_mask4]

def QuotePost (w : World) (l : List UInt8) (e : Ending) (w' : World) : Prop :=
  ∃ v, e = .returned v ∧ w'.ownsRow w.heap.size 5 1 v l.length (Lib.byteCells l) ∧ Below w.heap.size w w'

set_option maxHeartbeats 2000000 in
theorem quote_any (s : ByteArray) (w : World) (hs : s.size ≤ 1048576) :
    Calls Try.prog 9 #[.string s] w (QuotePost w (34 :: qb s.data.toList ++ [34])) := by
  obtain ⟨i0, hi, hz0, hz1, hz2⟩ := info_parts inf5
  go_enter Try.func9, Try.ntmps9
  go_wp2_with (at_make; go_must (refine wpList_make_own _ rfl _ _ 22 rfl w.heap.size 5 i0 (.int .u8 0) 1 Try.underlying22 hi hz0 hz1 .i64 .i64 _ (6 * s.size + 2) rfl rfl (by omega) ?a1 ?a2 ?a3 ?_))
  case a1 => rw [hz2]; omega
  case a2 => unfold maxLen; omega
  case a3 => exact Nat.le_refl _
  intro wa hown hgrow
  have hba : Below w.heap.size w wa := (Below.refl _ w).grown hgrow (Nat.le_refl _) (fun k hk => by cases hk)
  have hbz := hba.size
  clear hgrow
  go_wp2_with (at_builtin; go_must (refine wpList_append_own _ rfl _ _ 22 rfl w.heap.size 5 i0 (.int .u8 0) 1 1 Try.underlying22 hi hz0 hz1 hz2 rfl (by decide) _ 0 [] rfl (hown.alloc _) ⟨wa.heap.size, 0, none⟩ 1 1 [.int .u8 34] rfl rfl ?b1 ?b2 ?b3 ?b4 ?b5 ?_))
  case b1 => exact cell_one_new _ _ _
  case b2 => intro u hu; simp at hu; subst hu; rfl
  case b3 => unfold maxLen; omega
  case b4 => omega
  case b5 => simp; omega
  intro v0 w0 hown0 hgrow0 _
  have hb0 : Below w.heap.size w w0 := (hba.alloc hbz _).grown hgrow0 (by simp; omega) (fun k hk => by cases hk; exact Nat.le_refl _)
  clear hgrow0 hown hba hbz
  go_wp2
  go_loopw [3, 4] (fun v i wr => ∃ k : Nat, k ≤ s.size ∧ i = .int .i64 k ∧ wr.ownsRow w.heap.size 5 1 v (34 :: qb (s.data.toList.take k)).length (Lib.byteCells (34 :: qb (s.data.toList.take k))) ∧ Below w.heap.size w wr) (fun _ i _ => s.size - (intOf i).toNat)
  case atStart => exact ⟨0, by omega, rfl, hown0, hb0⟩
  case round =>
    obtain ⟨k, hk, rfl, hown1, hbel1⟩ := hrel
    have hwz := hbel1.size
    obtain ⟨L, hL⟩ : ∃ L, L = 34 :: qb (s.data.toList.take k) := ⟨_, rfl⟩
    rw [← hL] at hown1
    have hLl : L.length ≤ 6 * s.size + 1 := by
      have := qb_len (s.data.toList.take k)
      rw [List.length_take, ← Lib.size_eq] at this
      rw [hL, List.length_cons]; omega
    have HL : Hid (L = 34 :: qb (s.data.toList.take k)) := hL
    clear hL
    by_cases hlt : k < s.size
    · have hstep : s.data.toList.take (k + 1) = s.data.toList.take k ++ [s[k]] := by
        rw [List.take_succ_eq_append_getElem (by simpa using hlt)]; rfl
      have HS : Hid (34 :: qb (s.data.toList.take (k + 1)) = L ++ unit s[k]) := by
        show _ = _
        rw [hstep, qb_append, HL.out]; simp [qb]
      clear hstep
      obtain ⟨c, hc⟩ : ∃ c, s[k] = c := ⟨_, rfl⟩
      rw [hc] at HS
      by_cases q : c = 34 ∨ c = 92
      · have HU : Hid (unit c = [92, c]) := by show _ = _; simp [unit, q]
        have q' : ((c.toNat : Int) == 34) = true ∨ (((c.toNat : Int) == 34) = false ∧ ((c.toNat : Int) == 92) = true) := by
          rcases q with h | h
          · left; rw [h]; rfl
          · right; rw [h]; exact ⟨rfl, rfl⟩
        clear q
        rcases q' with q1 | ⟨q1, q2⟩
        all_goals
          go_wp2_with (at_builtin; go_must (refine wpList_append_own _ rfl _ _ 22 rfl w.heap.size 5 i0 (.int .u8 0) 1 1 Try.underlying22 hi hz0 hz1 hz2 rfl (by decide) _ _ _ rfl (hown1.alloc _) ⟨wr.heap.size, 0, none⟩ 2 2 [.int .u8 92, .int .u8 c.toNat] rfl rfl (cell_two_new _ _ _ _) (byteCells_one [92, c]) (by unfold maxLen; omega) (by omega) (by simp; omega) ?_))
          intro v2 w2 hown2 hgrow2 _
          obtain ⟨hown3, hbel3⟩ := app_step (news := [92, c]) hbel1 hwz hown1 hown2 rfl hgrow2
          have H5 : Hid (w2.ownsRow w.heap.size 5 1 v2 (34 :: qb (s.data.toList.take (k + 1))).length (Lib.byteCells (34 :: qb (s.data.toList.take (k + 1)))) ∧ Below w.heap.size w w2) := by
            rw [HS.out, HU.out]; exact ⟨hown3, hbel3⟩
          clear hown2 hgrow2 hown3 hbel3 hown1 hbel1
          go_wp2
          go_roundw
          case rel => exact ⟨k + 1, by omega, by go_num, H5.out.1, H5.out.2⟩
          case measure => simp [intOf]; omega
      · have q1 : ((c.toNat : Int) == 34) = false := by
          simp only [beq_eq_false_iff_ne, ne_eq]; intro h
          exact q (.inl (UInt8.toNat_inj.1 (by have : c.toNat = 34 := by omega
                                               rw [this]; rfl)))
        have q2 : ((c.toNat : Int) == 92) = false := by
          simp only [beq_eq_false_iff_ne, ne_eq]; intro h
          exact q (.inr (UInt8.toNat_inj.1 (by have : c.toNat = 92 := by omega
                                               rw [this]; rfl)))
        by_cases q3 : c.toNat < 32
        · have HU : Hid (unit c = [92, 117, 48, 48, hx ((c.toNat : Int) / 16), hx ((c.toNat % 16 : Nat) : Int)]) := by show _ = _; simp [unit, q, q3]
          have hand := and15 c
          clear q
          have hc256 := c.toNat_lt
          go_wp2_with fail
          refine (hex_any _ _ (by omega) (by omega)).mono ?_
          rintro e w' ⟨rfl, rfl⟩
          go_wp2_with fail
          refine (hex_any _ _ (by omega) (by omega)).mono ?_
          rintro e w' ⟨rfl, rfl⟩
          go_wp2_with (at_builtin; go_must (refine wpList_append_own _ rfl _ _ 22 rfl w.heap.size 5 i0 (.int .u8 0) 1 1 Try.underlying22 hi hz0 hz1 hz2 rfl (by decide) _ _ _ rfl (hown1.alloc _) ⟨wr.heap.size, 0, none⟩ 6 6 [.int .u8 92, .int .u8 117, .int .u8 48, .int .u8 48, .int .u8 (hx ((c.toNat : Int) / 16)).toNat, .int .u8 (hx ((c.toNat % 16 : Nat) : Int)).toNat] rfl rfl (cells_new _ [.int .u8 92, .int .u8 117, .int .u8 48, .int .u8 48, .int .u8 (hx ((c.toNat : Int) / 16)).toNat, .int .u8 (hx ((c.toNat % 16 : Nat) : Int)).toNat] _) (byteCells_one [92, 117, 48, 48, hx ((c.toNat : Int) / 16), hx ((c.toNat % 16 : Nat) : Int)]) (by unfold maxLen; omega) (by omega) (by simp; omega) ?_))
          intro v2 w2 hown2 hgrow2 _
          obtain ⟨hown3, hbel3⟩ := app_step (news := [92, 117, 48, 48, hx ((c.toNat : Int) / 16), hx ((c.toNat % 16 : Nat) : Int)]) hbel1 hwz hown1 hown2 rfl hgrow2
          have H5 : Hid (w2.ownsRow w.heap.size 5 1 v2 (34 :: qb (s.data.toList.take (k + 1))).length (Lib.byteCells (34 :: qb (s.data.toList.take (k + 1)))) ∧ Below w.heap.size w w2) := by
            rw [HS.out, HU.out]; exact ⟨hown3, hbel3⟩
          clear hown2 hgrow2 hown3 hbel3 hown1 hbel1
          go_wp2
          go_roundw
          case rel => exact ⟨k + 1, by omega, by go_num, H5.out.1, H5.out.2⟩
          case measure => simp [intOf]; omega
        · have HU : Hid (unit c = [c]) := by show _ = _; simp [unit, q, q3]
          clear q
          go_wp2_with (at_builtin; go_must (refine wpList_append_own _ rfl _ _ 22 rfl w.heap.size 5 i0 (.int .u8 0) 1 1 Try.underlying22 hi hz0 hz1 hz2 rfl (by decide) _ _ _ rfl (hown1.alloc _) ⟨wr.heap.size, 0, none⟩ 1 1 [.int .u8 c.toNat] rfl rfl (cell_one_new _ _ _) (byteCells_one [c]) (by unfold maxLen; omega) (by omega) (by simp; omega) ?_))
          intro v2 w2 hown2 hgrow2 _
          obtain ⟨hown3, hbel3⟩ := app_step (news := [c]) hbel1 hwz hown1 hown2 rfl hgrow2
          have H5 : Hid (w2.ownsRow w.heap.size 5 1 v2 (34 :: qb (s.data.toList.take (k + 1))).length (Lib.byteCells (34 :: qb (s.data.toList.take (k + 1)))) ∧ Below w.heap.size w w2) := by
            rw [HS.out, HU.out]; exact ⟨hown3, hbel3⟩
          clear hown2 hgrow2 hown3 hbel3 hown1 hbel1
          go_wp2
          go_roundw
          case rel => exact ⟨k + 1, by omega, by go_num, H5.out.1, H5.out.2⟩
          case measure => simp [intOf]; omega
    · have hks : k = s.size := by omega
      subst hks
      go_wp2_with (at_builtin; go_must (refine wpList_append_own _ rfl _ _ 22 rfl w.heap.size 5 i0 (.int .u8 0) 1 1 Try.underlying22 hi hz0 hz1 hz2 rfl (by decide) _ _ _ rfl (hown1.alloc _) ⟨wr.heap.size, 0, none⟩ 1 1 [.int .u8 34] rfl rfl (cell_one_new _ _ _) (byteCells_one [34]) (by unfold maxLen; omega) (by omega) (by simp; omega) ?_))
      intro v2 w2 hown2 hgrow2 _
      obtain ⟨hown3, hbel3⟩ := app_step (news := [34]) hbel1 hwz hown1 hown2 rfl hgrow2
      have e : L ++ [34] = 34 :: qb s.data.toList ++ [34] := by rw [HL.out, List.take_of_length_le (by simp)]
      have H5 : Hid (w2.ownsRow w.heap.size 5 1 v2 (34 :: qb s.data.toList ++ [34]).length (Lib.byteCells (34 :: qb s.data.toList ++ [34])) ∧ Below w.heap.size w w2) := by
        rw [← e]; exact ⟨hown3, hbel3⟩
      clear hown2 hgrow2 hown3 hbel3 hown1 hbel1 e
      go_wp2
      go_ret
      exact ⟨v2, rfl, H5.out.1, H5.out.2⟩

end Go.Proofs.Qxb6600766a
