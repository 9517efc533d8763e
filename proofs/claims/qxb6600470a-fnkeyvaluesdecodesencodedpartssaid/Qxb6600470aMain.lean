import Derived.Test.Qxb6600470aConv
namespace Go.Proofs.Qxb6600470a
open Go.RowKit
set_option linter.unusedVariables false

theorem app_bytes {w1 : World} {base : Nat} {v' : Value} {l news : List UInt8} {m : Nat} (h : w1.ownsRow base 5 1 v' (l.length + m) (Lib.byteCells l ++ Lib.byteCells news)) (hm : news.length = m) :
    w1.ownsRow base 5 1 v' (l ++ news).length (Lib.byteCells (l ++ news)) := by
  subst hm
  rw [Lib.byteCells_append, List.length_append]; exact h

theorem app_step {B m : Nat} {w W w1 : World} {v v' : Value} {l news : List UInt8} {o : Obj} (hbel : Below B w W) (hB : B ≤ W.heap.size) (hown : W.ownsRow B 5 1 v l.length (Lib.byteCells l))
    (hown' : w1.ownsRow B 5 1 v' (l.length + m) (Lib.byteCells l ++ Lib.byteCells news)) (hm : news.length = m) (hgrow : (W.alloc o).grownBy w1 v.ownBlock) :
    w1.ownsRow B 5 1 v' (l ++ news).length (Lib.byteCells (l ++ news)) ∧ Below B w w1 :=
  ⟨app_bytes hown' hm, (hbel.alloc hB o).grown hgrow (by simp; omega) (fun k hk => (hown.lt k hk).1)⟩

theorem byt_int (U m : Nat) : ((byt (U / 2 ^ (56 - 8 * m))).toNat : Int) = (U : Int) / 2 ^ (56 - 8 * m) % 256 := by
  rw [byt_toNat]; simp

def Goal (w : World) (e : Ending) (w' : World) : Prop := e = .returned (.bool true) ∧ Below w.heap.size w w'
theorem Goal.mk {w w' : World} (h : Below w.heap.size w w') : Goal w (.returned (.bool true)) w' := ⟨rfl, h⟩

set_option maxHeartbeats 4000000 in
set_option maxRecDepth 100000 in
theorem main_any (a0 a1 a2 a3 : Option Addr) (l0 c0 l1 c1 l2 c2 l3 c3 : Nat) (ks : Nat → UInt8) (ns : Nat → Int) (ts : Nat → ByteArray) (ms : Nat → UInt8) (w : World)
    (h0 : l0 ≤ maxLen) (h1 : l1 ≤ maxLen) (h2 : l2 ≤ maxLen) (h3 : l3 ≤ maxLen) (hts : ∀ i, i < l2 → (ts i).size ≤ maxLen) (hns : ∀ i, i < l1 → -(2 ^ 63) ≤ ns i ∧ ns i < 2 ^ 63)
    (s0 : Shows w.heap.size w a0 l0 (fun i => .int .u8 (ks i).toNat)) (s1 : Shows w.heap.size w a1 l1 (fun i => .int .i64 (ns i)))
    (s2 : Shows w.heap.size w a2 l2 (fun i => .string (ts i))) (s3 : Shows w.heap.size w a3 l3 (fun i => .int .u8 (ms i).toNat)) :
    Calls Try.prog 5 #[.slice a0 l0 c0, .slice a1 l1 c1, .slice a2 l2 c2, .slice a3 l3 c3] w (Goal w) := by
  obtain ⟨i0, hi, hz0, hz1, hz2⟩ := info_parts info5
  go_enter Try.func5, Try.ntmps5
  go_wp2_with (go_at_call 10; refine (zzBytes_any w.heap.size a0 a1 a2 a3 l0 c0 l1 c1 l2 c2 l3 c3 ts w h0 h1 h2 h3 hts s2).mono ?_)
  rintro e w' ⟨b, rfl, rfl, hb⟩
  cases b with
  | false =>
    go_wp2
    go_ret
    exact Goal.mk (Below.refl _ _)
  | true =>
    have hb := hb rfl
    have hts2 : ∀ i, i < l2 → (ts i).size ≤ 1048576 := fun i h => by have := sumTo_le (fun i => (ts i).size) l2 i h; omega
    clear hts
    have q0 : l0 ≤ 1048576 := by omega
    have q1 : l1 ≤ 1048576 := by omega
    have q2 : l2 ≤ 1048576 := by omega
    have q3 : l3 ≤ 1048576 := by omega
    clear h0 h1 h2 h3 hb
    go_wp2
    all_goals first | (go_ret; exact Goal.mk (Below.refl _ _)) | skip
    go_loop [9, 10] (fun n i => ∃ (k : Nat) (T : Int), k ≤ l2 ∧ i = .int .i64 k ∧ n = .int .i64 T ∧ 0 ≤ T ∧ T ≤ 1048576) (fun _ i => l2 - (intOf i).toNat)
    case atStart => exact ⟨0, _, by omega, rfl, rfl, by omega, by omega⟩
    case round =>
      obtain ⟨k, T, hk, rfl, rfl, hT0, hT1⟩ := hrel
      by_cases hlt : k < l2
      · obtain ⟨b, off, rfl, -, h3⟩ := s2 k hlt
        have htk := hts2 k hlt
        clear s0 s1 s2 s3 hts2 hns
        go_wp2
        all_goals first | (go_ret; exact Goal.mk (Below.refl _ _)) | skip
        go_round
        case rel => exact ⟨k + 1, _, by omega, by go_num, rfl, by omega, by omega⟩
        case measure => simp [intOf]; omega
      · go_wp2
        go_loop [11] (fun i => ∃ k : Nat, k ≤ l3 ∧ i = .int .i64 k ∧ ∀ j, j < k → ms j ≠ 255) (fun i => l3 - (intOf i).toNat)
        case atStart => exact ⟨0, by omega, rfl, fun j hj => by omega⟩
        case round =>
          obtain ⟨k3, hk3, rfl, hm⟩ := hrel
          by_cases hlt3 : k3 < l3
          · obtain ⟨b, off, rfl, -, h3⟩ := s3 k3 hlt3
            have HM : Hid (∀ j, j < k3 → ms j ≠ 255) := hm
            clear s0 s1 s2 s3 hts2 hns hm
            go_wp2
            all_goals first | (go_ret; exact Goal.mk (Below.refl _ _)) | skip
            go_round
            case rel =>
              have hne : (((ms k3).toNat : Int) == 255) = false := by assumption
              refine ⟨k3 + 1, by omega, by go_num, fun j hj => ?_⟩
              by_cases e : j = k3
              · rw [e]; intro h; rw [h] at hne; exact absurd hne (by decide)
              · exact HM.out j (by omega)
            case measure => simp [intOf]; omega
          · have hkl : k3 = l3 := by omega
            subst hkl
            go_wp2
            obtain ⟨f, hf⟩ : ∃ f, f = partOf ks ns ts ms l1 l2 k3 := ⟨_, rfl⟩
            have F1 : Hid (∀ i, ks i = 1 → f i = ⟨ks i, atOr ns 0 l1 i, [], atOr ms 0 k3 i⟩) := fun i h => by rw [hf]; exact partOf_one _ _ _ _ _ _ _ _ h
            have F2 : Hid (∀ i, ks i ≠ 1 → f i = ⟨ks i, 0, (atOr ts ⟨#[]⟩ l2 i).data.toList, atOr ms 0 k3 i⟩) := fun i h => by rw [hf]; exact partOf_other _ _ _ _ _ _ _ _ h
            have F3 : Hid (∀ i, (f i).s.length ≤ 1048576) := fun i => by rw [hf]; exact partOf_small _ _ _ _ _ _ _ hts2 i
            have F4 : Hid (∀ i, (f i).ok) := fun i => by rw [hf]; exact partOf_ok _ _ _ _ _ _ _ hns hm i
            have HNS : Hid (∀ i, -(2 ^ 63) ≤ atOr ns 0 l1 i ∧ atOr ns 0 l1 i < 2 ^ 63) := fun i => by
              unfold atOr; split
              · exact hns i ‹_›
              · decide
            have HTS : Hid (∀ i, (atOr ts ⟨#[]⟩ l2 i).size ≤ 1048576) := fun i => by
              unfold atOr; split
              · exact hts2 i ‹_›
              · decide
            have HE : Hid (∀ k, (encAll (partsTo f k)).length ≤ k * 2097161) := fun k => encAll_len f k (fun i _ => F3.out i)
            clear hf hm hns hts2 hT0 hT1 hlt hlt3 hk hk3
            go_loopw [12, 13] (fun v i wr => ∃ k : Nat, k ≤ l0 ∧ i = .int .i64 k ∧ wr.ownsRow w.heap.size 5 1 v (encAll (partsTo f k)).length (Lib.byteCells (encAll (partsTo f k))) ∧ Below w.heap.size w wr) (fun _ i _ => l0 - (intOf i).toNat)
            case atStart => exact ⟨0, by omega, rfl, World.ownsRow_nil _ _ _ _, Below.refl _ _⟩
            case round =>
              rename World => W
              obtain ⟨k, hk, rfl, hown, hbel⟩ := hrel
              have hWz := hbel.size
              have hel := HE.out k
              by_cases hlt : k < l0
              · have s0' := s0.below hbel
                obtain ⟨b, off, rfl, hbk, h3⟩ := s0' k hlt
                have h3' : W.cell? ⟨b, off + k, none⟩ = some (.int .u8 (ks k).toNat) := h3
                clear s0' h3
                go_wp2_with (at_builtin; go_must (refine wpList_append_own _ rfl _ _ 25 rfl w.heap.size 5 i0 (.int .u8 0) 1 1 Try.underlying25 hi hz0 hz1 hz2 rfl (by decide) _ _ _ rfl (hown.alloc _) ⟨W.heap.size, 0, none⟩ 1 1 [.int .u8 (ks k).toNat] rfl rfl ?c1 ?c2 ?c3 ?c4 ?c5 ?_))
                case c1 => exact cell_one_new _ _ _
                case c2 => intro u hu; simp at hu; subst hu; rfl
                case c3 => unfold maxLen; omega
                case c4 => omega
                case c5 => simp; omega
                intro v1 w1 hown1 hgrow1 _
                obtain ⟨hown2, hbel2⟩ := app_step (news := [ks k]) hbel hWz hown hown1 rfl hgrow1
                have hw1z := hbel2.size
                have h4 : w1.cell? ⟨b, off + k, none⟩ = some (.int .u8 (ks k).toNat) := (hbel2.cell hbk).trans ((hbel.cell hbk).symm.trans h3')
                have hEl : (encAll (partsTo f k) ++ [ks k]).length = (encAll (partsTo f k)).length + 1 := by simp
                clear hown1 hgrow1 hown h3' hWz hbel
                by_cases hk1 : ks k = 1
                · have hkb : (((ks k).toNat : Int) == 1) = true := by rw [hk1]; rfl
                  have HK1 : Hid (ks k = 1) := hk1
                  clear hk1
                  have s1' := s1.below hbel2
                  have hxe := xor_enc (atOr ns 0 l1 k) (HNS.out k).1 (HNS.out k).2
                  have HU := ubig_lt (atOr ns 0 l1 k) (HNS.out k).1 (HNS.out k).2
                  have HEP : Hid (encPart (f k) = ks k :: be8 (ubig (atOr ns 0 l1 k))) := by
                    show _ = _
                    rw [F1.out k HK1.out]; simp [encPart, HK1.out]
                  generalize ubig (atOr ns 0 l1 k) = U at hxe HU HEP
                  obtain ⟨E, hE⟩ : ∃ E, E = encAll (partsTo f k) ++ [ks k] := ⟨_, rfl⟩
                  rw [← hE] at hown2 hEl
                  have HEE : Hid (E = encAll (partsTo f k) ++ [ks k]) := hE
                  have HU' : Hid (U < 2 ^ 64) := HU
                  clear hE HU
                  have hEl2 : E.length ≤ k * 2097161 + 1 := by omega
                  clear hEl
                  go_wp2_with (go_at_call 11; refine (partInt_any w.heap.size a1 l1 c1 ns k _ q1 (by omega) s1').mono ?_; rintro e w' ⟨rfl, rfl⟩)
                  clear hxe s1' h4
                  go_loopw [12, 15] (fun v j wi => ∃ m : Nat, m ≤ 8 ∧ j = .int .i64 (56 - 8 * (m : Int)) ∧ wi.ownsRow w.heap.size 5 1 v (E ++ (be8 U).take m).length (Lib.byteCells (E ++ (be8 U).take m)) ∧ Below w.heap.size w wi) (fun _ j _ => (intOf j + 8).toNat)
                  case atStart => exact ⟨0, by omega, rfl, by simpa using hown2, hbel2⟩
                  case round =>
                    obtain ⟨m, hm8, rfl, hown3, hbel3⟩ := hrel
                    have hw3z := hbel3.size
                    by_cases hlt8 : m < 8
                    · obtain ⟨L, hL⟩ : ∃ L, L = E ++ (be8 U).take m := ⟨_, rfl⟩
                      rw [← hL] at hown3
                      have hLl : L.length ≤ E.length + 8 := by rw [hL, List.length_append, List.length_take]; omega
                      have HL : Hid (L = E ++ (be8 U).take m) := hL
                      clear hL
                      go_wp2_with (at_builtin; go_must (refine wpList_append_own _ rfl _ _ 25 rfl w.heap.size 5 i0 (.int .u8 0) 1 1 Try.underlying25 hi hz0 hz1 hz2 rfl (by decide) _ _ _ rfl (hown3.alloc _) ⟨wr.heap.size, 0, none⟩ 1 1 [.int .u8 ((U : Int) / 2 ^ (56 - 8 * m) % 256)] rfl rfl ?d1 ?d2 ?d3 ?d4 ?d5 ?_))
                      case d1 => exact cell_one_new _ _ _
                      case d2 => intro u hu; simp at hu; subst hu; rfl
                      case d3 => unfold maxLen; omega
                      case d4 => omega
                      case d5 => simp; omega
                      intro v3 w3 hown4 hgrow4 _
                      rw [← byt_int] at hown4
                      obtain ⟨hown5, hbel5⟩ := app_step (news := [byt (U / 2 ^ (56 - 8 * m))]) hbel3 hw3z hown3 hown4 rfl hgrow4
                      have H5 : Hid (w3.ownsRow w.heap.size 5 1 v3 (E ++ (be8 U).take (m + 1)).length (Lib.byteCells (E ++ (be8 U).take (m + 1))) ∧ Below w.heap.size w w3) := by
                        rw [be8_step U m hlt8, ← List.append_assoc, ← HL.out]; exact ⟨hown5, hbel5⟩
                      clear hown4 hgrow4 hown5 hbel5 hown3 hbel3
                      go_wp2
                      go_roundw
                      case rel => exact ⟨m + 1, by omega, by go_num, H5.out.1, H5.out.2⟩
                      case measure => simp [intOf]; omega
                    · have hm8' : m = 8 := by omega
                      subst hm8'
                      have H5 : Hid (wr.ownsRow w.heap.size 5 1 u12 (encAll (partsTo f (k + 1))).length (Lib.byteCells (encAll (partsTo f (k + 1)))) ∧ Below w.heap.size w wr) := by
                        have e : encAll (partsTo f (k + 1)) = E ++ (be8 U).take 8 := by
                          rw [encAll_succ, HEP.out, HEE.out, List.take_of_length_le (by rw [be8_len]; omega)]; simp
                        rw [e]; exact ⟨hown3, hbel3⟩
                      clear hown3 hbel3
                      go_wp2
                      go_roundw
                      case rel => exact ⟨k + 1, by omega, by go_num, H5.out.1, H5.out.2⟩
                      case measure => simp [intOf]; omega
                · have hkb : (((ks k).toNat : Int) == 1) = false := by
                    simp only [beq_eq_false_iff_ne, ne_eq]
                    intro h
                    exact hk1 (UInt8.toNat_inj.1 (by have : (ks k).toNat = 1 := by omega
                                                     rw [this]; rfl))
                  have HK1 : Hid (ks k ≠ 1) := hk1
                  clear hk1
                  have s2' := s2.below hbel2
                  have HEP : Hid (encPart (f k) = ks k :: (esc (atOr ts ⟨#[]⟩ l2 k).data.toList ++ [0, atOr ms 0 k3 k])) := by
                    show _ = _
                    rw [F2.out k HK1.out]; simp [encPart, HK1.out]
                  have htz := HTS.out k
                  obtain ⟨E, hE⟩ : ∃ E, E = encAll (partsTo f k) ++ [ks k] := ⟨_, rfl⟩
                  rw [← hE] at hown2 hEl
                  have HEE : Hid (E = encAll (partsTo f k) ++ [ks k]) := hE
                  clear hE
                  have hEl2 : E.length ≤ k * 2097161 + 1 := by omega
                  clear hEl
                  have hpt := fun W' h => partText_any w.heap.size a2 l2 c2 ts k W' q2 (by omega) h
                  generalize atOr ts ⟨#[]⟩ l2 k = t at HEP htz hpt
                  go_wp2_with (go_at_call 12; refine (hpt _ s2').mono ?_; rintro e w' ⟨rfl, rfl⟩)
                  clear s2' h4 hpt
                  go_loopw [12, 17] (fun v j wi => ∃ m : Nat, m ≤ t.size ∧ j = .int .i64 m ∧ wi.ownsRow w.heap.size 5 1 v (E ++ esc (t.data.toList.take m)).length (Lib.byteCells (E ++ esc (t.data.toList.take m))) ∧ Below w.heap.size w wi) (fun _ j _ => t.size - (intOf j).toNat)
                  case atStart => exact ⟨0, by omega, rfl, by simpa [esc] using hown2, hbel2⟩
                  case round =>
                    obtain ⟨m, hmt, rfl, hown3, hbel3⟩ := hrel
                    have hw3z := hbel3.size
                    obtain ⟨L, hL⟩ : ∃ L, L = E ++ esc (t.data.toList.take m) := ⟨_, rfl⟩
                    rw [← hL] at hown3
                    have hLl : L.length ≤ E.length + 2097152 := by
                      have := esc_len (t.data.toList.take m)
                      rw [List.length_take, ← Lib.size_eq] at this
                      rw [hL, List.length_append]; omega
                    have HL : Hid (L = E ++ esc (t.data.toList.take m)) := hL
                    clear hL
                    by_cases hltt : m < t.size
                    · have hstep : t.data.toList.take (m + 1) = t.data.toList.take m ++ [t[m]] := by
                        rw [List.take_succ_eq_append_getElem (by simpa using hltt)]; rfl
                      have HS : Hid (esc (t.data.toList.take (m + 1)) = esc (t.data.toList.take m) ++ esc [t[m]]) := by
                        show _ = _
                        rw [hstep, esc_append]
                      clear hstep
                      obtain ⟨c, hc⟩ : ∃ c, t[m] = c := ⟨_, rfl⟩
                      rw [hc] at HS
                      by_cases hc0 : c = 0
                      · have hcb : ((c.toNat : Int) == 0) = true := by rw [hc0]; rfl
                        have HC : Hid (esc [c] = [0, 255]) := by rw [hc0]; rfl
                        clear hc0
                        go_wp2_with (at_builtin; go_must (refine wpList_append_own _ rfl _ _ 25 rfl w.heap.size 5 i0 (.int .u8 0) 1 1 Try.underlying25 hi hz0 hz1 hz2 rfl (by decide) _ _ _ rfl (hown3.alloc _) ⟨wr.heap.size, 0, none⟩ 2 2 [.int .u8 0, .int .u8 255] rfl rfl ?f1 ?f2 ?f3 ?f4 ?f5 ?_))
                        case f1 => exact cell_two_new _ _ _ _
                        case f2 => intro u hu; simp at hu; rcases hu with rfl | rfl <;> rfl
                        case f3 => unfold maxLen; omega
                        case f4 => omega
                        case f5 => simp; omega
                        intro v3 w3 hown4 hgrow4 _
                        obtain ⟨hown5, hbel5⟩ := app_step (news := [0, 255]) hbel3 hw3z hown3 hown4 rfl hgrow4
                        have H5 : Hid (w3.ownsRow w.heap.size 5 1 v3 (E ++ esc (t.data.toList.take (m + 1))).length (Lib.byteCells (E ++ esc (t.data.toList.take (m + 1)))) ∧ Below w.heap.size w w3) := by
                          rw [HS.out, HC.out, ← List.append_assoc, ← HL.out]; exact ⟨hown5, hbel5⟩
                        clear hown4 hgrow4 hown5 hbel5 hown3 hbel3
                        go_wp2
                        go_roundw
                        case rel => exact ⟨m + 1, by omega, by go_num, H5.out.1, H5.out.2⟩
                        case measure => simp [intOf]; omega
                      · have hcb : ((c.toNat : Int) == 0) = false := by
                          simp only [beq_eq_false_iff_ne, ne_eq]
                          intro h
                          exact hc0 (UInt8.toNat_inj.1 (by have : c.toNat = 0 := by omega
                                                           rw [this]; rfl))
                        have HC : Hid (esc [c] = [c]) := by show _ = _; simp [esc, hc0]
                        clear hc0
                        go_wp2_with (at_builtin; go_must (refine wpList_append_own _ rfl _ _ 25 rfl w.heap.size 5 i0 (.int .u8 0) 1 1 Try.underlying25 hi hz0 hz1 hz2 rfl (by decide) _ _ _ rfl (hown3.alloc _) ⟨wr.heap.size, 0, none⟩ 1 1 [.int .u8 c.toNat] rfl rfl ?g1 ?g2 ?g3 ?g4 ?g5 ?_))
                        case g1 => exact cell_one_new _ _ _
                        case g2 => intro u hu; simp at hu; subst hu; rfl
                        case g3 => unfold maxLen; omega
                        case g4 => omega
                        case g5 => simp; omega
                        intro v3 w3 hown4 hgrow4 _
                        obtain ⟨hown5, hbel5⟩ := app_step (news := [c]) hbel3 hw3z hown3 hown4 rfl hgrow4
                        have H5 : Hid (w3.ownsRow w.heap.size 5 1 v3 (E ++ esc (t.data.toList.take (m + 1))).length (Lib.byteCells (E ++ esc (t.data.toList.take (m + 1)))) ∧ Below w.heap.size w w3) := by
                          rw [HS.out, HC.out, ← List.append_assoc, ← HL.out]; exact ⟨hown5, hbel5⟩
                        clear hown4 hgrow4 hown5 hbel5 hown3 hbel3
                        go_wp2
                        go_roundw
                        case rel => exact ⟨m + 1, by omega, by go_num, H5.out.1, H5.out.2⟩
                        case measure => simp [intOf]; omega
                    · have hmt' : m = t.size := by omega
                      subst hmt'
                      have s3' := s3.below hbel3
                      have hpm := fun W' h => partTerm_u8 w.heap.size a3 k3 c3 ms k W' q3 (by omega) h
                      generalize atOr ms 0 k3 k = tm at HEP hpm
                      go_wp2_with (first | (go_at_call 13; refine (hpm _ s3').mono ?_; rintro e w' ⟨rfl, rfl⟩) | (at_builtin; go_must (refine wpList_append_own _ rfl _ _ 25 rfl w.heap.size 5 i0 (.int .u8 0) 1 1 Try.underlying25 hi hz0 hz1 hz2 rfl (by decide) _ _ _ rfl (hown3.alloc _) ⟨wr.heap.size, 0, none⟩ 2 2 [.int .u8 0, .int .u8 tm.toNat] rfl rfl ?k1 ?k2 ?k3 ?k4 ?k5 ?_)))
                      case k1 => exact cell_two_new _ _ _ _
                      case k2 => intro u hu; simp at hu; rcases hu with rfl | rfl <;> rfl
                      case k3 => unfold maxLen; omega
                      case k4 => omega
                      case k5 => simp; omega
                      intro v3 w3 hown4 hgrow4 _
                      obtain ⟨hown5, hbel5⟩ := app_step (news := [0, tm]) hbel3 hw3z hown3 hown4 rfl hgrow4
                      have H5 : Hid (w3.ownsRow w.heap.size 5 1 v3 (encAll (partsTo f (k + 1))).length (Lib.byteCells (encAll (partsTo f (k + 1)))) ∧ Below w.heap.size w w3) := by
                        have e : encAll (partsTo f (k + 1)) = L ++ [0, tm] := by
                          rw [encAll_succ, HEP.out, HL.out, HEE.out, List.take_of_length_le (by simp)]; simp
                        rw [e]; exact ⟨hown5, hbel5⟩
                      clear hown4 hgrow4 hown5 hbel5 hown3 hbel3 s3' hpm
                      go_wp2
                      go_roundw
                      case rel => exact ⟨k + 1, by omega, by go_num, H5.out.1, H5.out.2⟩
                      case measure => simp [intOf]; omega
              · have hkl0 : k = l0 := by omega
                subst hkl0
                obtain ⟨ps, hps⟩ : ∃ ps, ps = partsTo f k := ⟨_, rfl⟩
                rw [← hps] at hown
                have hcv := conv_own hown
                have hpl : ps.length = k := by rw [hps]; exact partsTo_len f k
                have hel2 : (encAll ps).length ≤ k * 2097161 := by rw [hps]; exact hel
                have HOK : Hid (∀ p ∈ ps, p.ok) := fun p hp => by
                  rw [hps] at hp
                  obtain ⟨i, _, rfl⟩ := partsTo_mem f k p hp
                  exact F4.out i
                have HPS : Hid (ps = partsTo f k) := hps
                have HPL : Hid (ps.length = k) := hpl
                obtain ⟨es, hes⟩ : ∃ es : ByteArray, es = ⟨(encAll ps).toArray⟩ := ⟨_, rfl⟩
                rw [← hes] at hcv
                have HES : Hid (es.data.toList = encAll ps ∧ es.size ≤ 4398046511104) := by
                  constructor
                  · rw [hes]
                  · rw [hes, Lib.size_eq]; simp only; omega
                clear hps hpl hes hel hel2 HE
                go_wp2_with (go_at_call 15; refine (keyOf_any 255 0 es _).mono ?_)
                rintro e w1 ⟨rfl, hb1⟩
                go_wp2_with (go_at_call 14; refine (keyValues_any ps HOK.out (by have := HPL.out; omega) es HES.out.1 HES.out.2 _).mono ?_)
                rintro e w2 ⟨v, rfl, hown2, hb2⟩
                rw [HPL.out, HPS.out] at hown2
                obtain ⟨ao, cap, rfl⟩ : ∃ ao cap, v = .slice ao k cap := by
                  rcases hown2.2 with ⟨hv, h0⟩ | ⟨g, cap, cur, hv, _⟩
                  · exact ⟨none, 0, by rw [hv, h0]⟩
                  · exact ⟨_, _, hv⟩
                have hbw2 : Below w.heap.size w w2 := (hbel.trans (hb1.mono hWz)).trans (hb2.mono (by have := hb1.size; omega))
                clear hcv hown hb1 hb2 hWz hbel
                go_wp2
                go_loopw [19] (fun i wr => ∃ j : Nat, j ≤ k ∧ i = .int .i64 j ∧ Below w2.heap.size w2 wr) (fun i _ => k - (intOf i).toNat)
                case atStart => exact ⟨0, by omega, rfl, Below.refl _ _⟩
                case round =>
                  obtain ⟨j, hj, rfl, hbr⟩ := hrel
                  have hbr' := hbw2.trans (hbr.mono hbw2.size)
                  by_cases hlt : j < k
                  · obtain ⟨b, off, rfl, hbk, h3⟩ := (s0.below hbr') j hlt
                    have h3' : wr.cell? ⟨b, off + j, none⟩ = some (.int .u8 (ks j).toNat) := h3
                    clear h3
                    obtain ⟨g, rfl⟩ : ∃ g, ao = some ⟨g, 0, none⟩ := by
                      rcases hown2.2 with ⟨hv, h0⟩ | ⟨g, cap, cur, hv, _⟩
                      · omega
                      · simp at hv; exact ⟨g, hv.1⟩
                    have hgl : g < w2.heap.size := (hown2.lt g rfl).2
                    obtain ⟨v0, v1, v2⟩ := valCells_at f k j hlt
                    rw [Nat.mul_comm 3 j] at v0 v1 v2
                    have hg0 : wr.cell? ⟨g, j * 3, none⟩ = some (.int .u8 (f j).k.toNat) := (hbr.cell hgl).trans ((hown2.cellAt _ (by omega)).trans v0)
                    have hg1 : wr.cell? ⟨g, j * 3 + 1, none⟩ = some (.int .i64 (f j).n) := (hbr.cell hgl).trans ((hown2.cellAt _ (by omega)).trans v1)
                    have hg2 : wr.cell? ⟨g, j * 3 + 2, none⟩ = some (.string ⟨(f j).s.toArray⟩) := (hbr.cell hgl).trans ((hown2.cellAt _ (by omega)).trans v2)
                    clear v0 v1 v2
                    have hrz := hbr.size
                    have hrz' := hbr'.size
                    by_cases hk1 : ks j = 1
                    · have hkb : (((ks j).toNat : Int) == 1) = true := by rw [hk1]; rfl
                      rw [F1.out j hk1] at hg0 hg1 hg2
                      have hg2' : wr.cell? ⟨g, j * 3 + 2, none⟩ = some (.string ⟨#[]⟩) := hg2
                      have hpi := fun W' h => partInt_any w.heap.size a1 l1 c1 ns j W' q1 (by omega) h
                      generalize atOr ns 0 l1 j = N at hg1 hpi
                      clear hk1 hg2 F1 F2 F3 F4 HNS HTS
                      go_wp2_with fail
                      refine (valueParts_any _ _ _ _).mono ?_
                      rintro e w3 ⟨rfl, hb3⟩
                      have hb3w := hbr'.trans (hb3.mono hrz')
                      have HB : Hid (Below w2.heap.size w2 w3) := hbr.trans (hb3.mono hrz)
                      have h3'' : w3.cell? ⟨b, off + j, none⟩ = some (.int .u8 (ks j).toNat) := (hb3.cell (by show b < _; omega)).trans h3'
                      have s1' := s1.below hb3w
                      clear h3' hg0 hg1 hg2' hb3 hb3w hbr hbr'
                      go_wp2_with (go_at_call 11; refine (hpi _ s1').mono ?_; rintro e w' ⟨rfl, rfl⟩)
                      go_roundw
                      case rel => exact ⟨j + 1, by omega, by go_num, HB.out⟩
                      case measure => simp [intOf]; omega
                    · have hkb : (((ks j).toNat : Int) == 1) = false := by
                        simp only [beq_eq_false_iff_ne, ne_eq]
                        intro h
                        exact hk1 (UInt8.toNat_inj.1 (by have : (ks j).toNat = 1 := by omega
                                                         rw [this]; rfl))
                      rw [F2.out j hk1] at hg0 hg1 hg2
                      have hpt := fun W' h => partText_any w.heap.size a2 l2 c2 ts j W' q2 (by omega) h
                      have hg2' : wr.cell? ⟨g, j * 3 + 2, none⟩ = some (.string (atOr ts ⟨#[]⟩ l2 j)) := by rw [hg2]
                      generalize atOr ts ⟨#[]⟩ l2 j = t at hg2' hpt
                      clear hk1 hg2 F1 F2 F3 F4 HNS HTS
                      go_wp2_with fail
                      refine (valueParts_any _ _ _ _).mono ?_
                      rintro e w3 ⟨rfl, hb3⟩
                      have hb3w := hbr'.trans (hb3.mono hrz')
                      have HB : Hid (Below w2.heap.size w2 w3) := hbr.trans (hb3.mono hrz)
                      have h3'' : w3.cell? ⟨b, off + j, none⟩ = some (.int .u8 (ks j).toNat) := (hb3.cell (by show b < _; omega)).trans h3'
                      have s2' := s2.below hb3w
                      clear h3' hg0 hg1 hg2' hb3 hb3w hbr hbr'
                      go_wp2_with (go_at_call 12; refine (hpt _ s2').mono ?_; rintro e w' ⟨rfl, rfl⟩)
                      go_roundw
                      case rel => exact ⟨j + 1, by omega, by go_num, HB.out⟩
                      case measure => simp [intOf]; omega
                  · go_wp2
                    go_ret
                    exact Goal.mk hbr'

end Go.Proofs.Qxb6600470a
