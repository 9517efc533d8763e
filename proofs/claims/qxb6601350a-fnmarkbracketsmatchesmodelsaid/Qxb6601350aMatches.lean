import Derived.Test.Qxb6601350aSettles
import Derived.Test.Qxb6601350aModel
namespace Go.Proofs.Qxb6601350a
open Go.RowKit
set_option linter.unusedVariables false

def anyTo (F : Nat → Bool) : Nat → Bool
  | 0 => false
  | k + 1 => anyTo F k || F k
theorem anyTo_false (F : Nat → Bool) (h : ∀ j, F j = false) : ∀ n, anyTo F n = false
  | 0 => rfl
  | n + 1 => by simp [anyTo, h, anyTo_false F h n]
theorem anyTo_true (F : Nat → Bool) (q : Nat) (h : F q = true) : ∀ n, q < n → anyTo F n = true
  | 0, hq => by omega
  | n + 1, hq => by
    by_cases e : q = n
    · subst e; simp [anyTo, h]
    · simp [anyTo, anyTo_true F q h n (by omega)]

theorem model_named (t : ByteArray) (a : Option Addr) (cap0 len : Nat) (ps : List Nat) (P : List (Nat × Nat)) (w : World) (h0 : t.size ≤ 1048576) (hlen : ps.length = len) (hl : len ≤ 1048576)
    (hs : Shows w.heap.size w a len (fun i => .int .i64 (ps.getD i 0 : Nat))) (hps : ∀ i, i < ps.length → ps.getD i 0 < t.size) (hinc : ∀ i j, i < j → j < ps.length → ps.getD i 0 < ps.getD j 0)
    (hP : P = mbP t.data.toList ps) : Calls Try.prog 18 #[.string t, .slice a len cap0] w (BmPost t.size P w) := by
  subst hlen hP
  exact model_any t a cap0 ps w h0 hl hs hps hinc

set_option maxHeartbeats 4000000 in
set_option maxRecDepth 100000 in
theorem matches_any (t m : ByteArray) (a : Option Addr) (len cap : Nat) (f : Nat → Int) (w : World) (H : SettlesArgs t m a len f w) :
    Calls Try.prog 4 #[.string t, .string m, .slice a len cap] w (Goal w) := by
  obtain ⟨h0, h1, h2, hn, hs, hb⟩ := H
  obtain ⟨i0, hi, hz0, hz1, hz2⟩ := info_parts info5
  go_enter Try.func4, Try.ntmps4
  go_wp2_with fail
  refine (zzBytes_model t m a len cap w h0 h1 h2).mono ?_
  rintro e w' ⟨b, rfl, rfl, hbb⟩
  cases b with
  | false =>
    go_wp2
    go_ret
    exact Goal.mk (Below.refl _ _)
  | true =>
    have hbb' := hbb rfl
    clear hbb h0 h1 h2
    have q0 : t.size ≤ 1048576 := by omega
    have q1 : m.size ≤ 1048576 := by omega
    by_cases q2 : len ≤ 131072
    · by_cases q3 : t.size + m.size + 8 * len ≤ 1048576
      · clear hbb'
        go_wp2_with fail
        refine (fit_any t m a len cap f w q0 q1 (by omega) hs hb).mono ?_
        rintro e w1 ⟨b, rfl, hb1, hfit⟩
        cases b with
        | false =>
          go_wp2
          go_ret
          exact Goal.mk hb1
        | true =>
          have HFit : Hid (Fits t.size m.size len f) := hfit rfl
          have hb1z := hb1.size
          clear hfit
          go_wp2_with fail
          refine (clone_any a len cap f w1 (by omega) hn (fun i hi => by obtain ⟨b, off, e1, e2, e3⟩ := (hs.below hb1) i hi; exact ⟨b, off, e1, by omega, e3⟩)).mono ?_
          rintro e w2 ⟨a', cap', rfl, hb2, hs2⟩
          have hb2' := hb1.trans (hb2.mono hb1z)
          obtain ⟨ps, hps⟩ : ∃ ps, ps = offs f len := ⟨_, rfl⟩
          have HO := fits_offs HFit.out
          have hpl : ps.length = len := by rw [hps]; exact offs_len f len
          rw [← hps] at HO
          have hs3 : Shows w2.heap.size w2 a' len (fun i => .int .i64 (ps.getD i 0 : Nat)) := fun i hi => by
            obtain ⟨b, off, e1, e2, e3⟩ := hs2 i hi
            exact ⟨b, off, e1, e2, by rw [e3]; show some (Value.int _ (f i)) = some (Value.int _ _); rw [HO.2.2 i hi]⟩
          obtain ⟨P, hP⟩ : ∃ P, P = mbP t.data.toList ps := ⟨_, rfl⟩
          obtain ⟨gs, hgs⟩ : ∃ gs : ByteArray, gs = ⟨(zmask m.data.toList (mbP t.data.toList ps)).toArray⟩ := ⟨_, rfl⟩
          obtain ⟨ba, hba⟩ : ∃ ba, ba = !(mbP t.data.toList ps).isEmpty := ⟨_, rfl⟩
          have HM : Hid (m.size = t.size) := HFit.out.1
          have HPS : Hid ((∀ i, i < ps.length → ps.getD i 0 < t.size) ∧ (∀ i j, i < j → j < ps.length → ps.getD i 0 < ps.getD j 0)) := ⟨HO.1, HO.2.1⟩
          have HPL : Hid (ps.length = len) := hpl
          have HGS : Hid (gs = ⟨(zmask m.data.toList (mbP t.data.toList ps)).toArray⟩) := hgs
          have HBA : Hid (ba = !(mbP t.data.toList ps).isEmpty) := hba
          have HPP : Hid (P = mbP t.data.toList ps) := hP
          have HGZ : Hid (gs.size = t.size) := by
            show _ = _
            rw [hgs, Lib.size_eq]; simp only; rw [zmask_len, ← Lib.size_eq]; exact HM.out
          clear hps HO hs2 hs hn hpl hgs hba hP hb HFit hb1 hb2 hb1z
          go_wp2_with fail
          refine (zzMark_named t m a' cap' len ps gs ba w2 q0 HM.out HPL.out (by omega) hs3 HPS.out.1 HPS.out.2 HGS.out HBA.out).mono ?_
          rintro e w3 ⟨rfl, hb3⟩
          have hb3w := hb2'.trans (hb3.mono hb2'.size)
          have hb3z := hb3.size
          have hs3w : Shows w3.heap.size w3 a' len (fun i => .int .i64 (ps.getD i 0 : Nat)) := fun i hi => by
            obtain ⟨b, off, e1, e2, e3⟩ := (hs3.below hb3) i hi
            exact ⟨b, off, e1, by omega, e3⟩
          go_wp2_with fail
          refine (model_named t a' cap' len ps P w3 q0 HPL.out (by omega) hs3w HPS.out.1 HPS.out.2 HPP.out).mono ?_
          rintro e w4 ⟨gm, rfl, hmk, hb4⟩
          have hb4w := hb3w.trans (hb4.mono hb3w.size)
          have hgm := hmk.lt
          obtain ⟨capw, W1, hcv, hrow, hbW1⟩ := bytes_of m w4
          have hbz := hb4w.size
          clear hs3w hs3 hb3 hb3z hb2' hb3w hb4
          go_wp2
          go_loopw [11, 12] (fun y i wr => ∃ (i' : Nat) (l : List UInt8), i' ≤ m.size ∧ i = .int .i64 i' ∧ y = .bool (anyTo (marked P) i') ∧ Hid (l.length = m.size ∧ ∀ j, j < m.size → l.getD j 0 = if j < i' ∧ marked P j = true then 0 else m.data.toList.getD j 0) ∧ Row w4.heap.size l wr ∧ Below w4.heap.size w4 wr) (fun _ i _ => m.size - (intOf i).toNat)
          case atStart => exact ⟨0, m.data.toList, by omega, rfl, rfl, ⟨by rw [← Lib.size_eq], fun j hj => by simp⟩, hrow, hbW1⟩
          case round =>
            obtain ⟨i, l, hi', rfl, rfl, HL, hrow, hbr⟩ := hrel
            by_cases hlt : i < m.size
            · have hmz : m.size ≤ t.size := by have := HM.out; omega
              have hcm : wr.cell? ⟨gm, i, none⟩ = some (.bool (marked P i)) := (hbr.cell hgm.2).trans (hmk.cell i (by omega))
              have c1 := hrow.cell i (by have := HL.out.1; omega)
              have f1 := hrow.free i (by have := HL.out.1; omega)
              cases hmi : marked P i
              · rw [hmi] at hcm
                have HL2 : Hid (l.length = m.size ∧ ∀ j, j < m.size → l.getD j 0 = if j < i + 1 ∧ marked P j = true then 0 else m.data.toList.getD j 0) := by
                  refine ⟨HL.out.1, fun j hj => ?_⟩
                  rw [HL.out.2 j hj]
                  by_cases e : j = i
                  · subst e; simp [hmi]
                  · have : (j < i + 1 ∧ marked P j = true) ↔ (j < i ∧ marked P j = true) := by
                      constructor
                      · rintro ⟨h1, h2⟩; exact ⟨by omega, h2⟩
                      · rintro ⟨h1, h2⟩; exact ⟨by omega, h2⟩
                    simp only [this]
                have HA : Hid (anyTo (marked P) (i + 1) = anyTo (marked P) i) := by show _ = _; simp [anyTo, hmi]
                generalize anyTo (marked P) i = av at HA
                clear hmi c1 f1
                go_wp2
                go_roundw
                case rel => exact ⟨i + 1, l, by omega, by go_num, by rw [HA.out], HL2, hrow, hbr⟩
                case measure => simp [intOf]; omega
              · rw [hmi] at hcm
                have HL2 : Hid ((l.set i 0).length = m.size ∧ ∀ j, j < m.size → (l.set i 0).getD j 0 = if j < i + 1 ∧ marked P j = true then 0 else m.data.toList.getD j 0) := by
                  refine ⟨by rw [List.length_set]; exact HL.out.1, fun j hj => ?_⟩
                  by_cases e : j = i
                  · subst e
                    have hjl : j < l.length := by have := HL.out.1; omega
                    simp [hmi, List.getD_eq_getElem?_getD, hjl]
                  · have h1 : (l.set i 0).getD j 0 = l.getD j 0 := by
                      rw [List.getD_eq_getElem?_getD, List.getElem?_set_ne (by omega), ← List.getD_eq_getElem?_getD]
                    rw [h1, HL.out.2 j hj]
                    have : (j < i + 1 ∧ marked P j = true) ↔ (j < i ∧ marked P j = true) := by
                      constructor
                      · rintro ⟨h1, h2⟩; exact ⟨by omega, h2⟩
                      · rintro ⟨h1, h2⟩; exact ⟨by omega, h2⟩
                    simp only [this]
                have HA : Hid (anyTo (marked P) (i + 1) = true) := by show _ = _; simp [anyTo, hmi]
                have HR2 : Hid (Row w4.heap.size (l.set i 0) (wr.setCell ⟨w4.heap.size, i, none⟩ (.int .u8 0))) := hrow.put i 0
                have HB2 : Hid (Below w4.heap.size w4 (wr.setCell ⟨w4.heap.size, i, none⟩ (.int .u8 0))) := hbr.setCell (Nat.le_refl _) _
                generalize anyTo (marked P) i = av
                generalize l.getD i 0 = x1 at c1
                clear hmi hrow
                go_wp2
                go_roundw
                case rel => exact ⟨i + 1, l.set i 0, by omega, by go_num, by rw [HA.out], HL2, HR2.out, HB2.out⟩
                case measure => simp [intOf]; omega
            · obtain rfl : i = m.size := by omega
              have hl : l = zmask m.data.toList P := by
                apply ext_getD
                · rw [zmask_len, HL.out.1, ← Lib.size_eq]
                · intro j hj
                  have hj' : j < m.size := by have := HL.out.1; omega
                  rw [HL.out.2 j hj', zmask_get _ _ _ (by rw [← Lib.size_eq]; exact hj')]
                  simp [hj']
              have hstr := hrow.str (cap := capw) (n := m.size) HL.out.1
              have hgs' : (⟨l.toArray⟩ : ByteArray) = gs := by rw [hl, HGS.out, HPP.out]
              rw [hgs'] at hstr
              have HA : Hid (ba = anyTo (marked P) m.size) := by
                show _ = _
                rw [HBA.out, ← HPP.out]
                cases hP : P with
                | nil =>
                  have : anyTo (marked []) m.size = false := anyTo_false _ (fun j => rfl) _
                  rw [this]; rfl
                | cons pe r =>
                  obtain ⟨q, e⟩ := pe
                  have hok : okP ps t.data.toList 0 P := by
                    rw [HPP.out]
                    refine mbP_ok ps t.data.toList _ ps 0 (Nat.le_refl _) ?_ (fun x hx => ⟨Nat.zero_le _, hx⟩)
                    rw [List.pairwise_iff_getElem]
                    intro i j hi hj hij
                    have := HPS.out.2 i j hij hj
                    simpa [List.getD_eq_getElem?_getD, hi, hj] using this
                  rw [hP] at hok
                  have hq : q ∈ ps := hok.2.2.1
                  have hqn : q < m.size := by
                    obtain ⟨j0, h1, h2⟩ := List.mem_iff_getElem.1 hq
                    have := HPS.out.1 j0 h1
                    rw [HM.out]
                    simpa [List.getD_eq_getElem?_getD, h1, h2] using this
                  have : anyTo (marked ((q, e) :: r)) m.size = true := anyTo_true _ q (by simp [marked]) _ hqn
                  rw [this]; rfl
              generalize anyTo (marked P) m.size = av at HA
              clear hl hgs' hrow hcv hmk
              have hbb : (ba == av) = true := by rw [HA.out]; simp
              go_wp2
              go_ret
              exact Goal.mk (hb4w.trans (hbr.mono hbz))
      · clear hb hs
        go_wp2
        go_ret
        exact Goal.mk (Below.refl _ _)
    · clear hb hs
      go_wp2
      go_ret
      exact Goal.mk (Below.refl _ _)

end Go.Proofs.Qxb6601350a
