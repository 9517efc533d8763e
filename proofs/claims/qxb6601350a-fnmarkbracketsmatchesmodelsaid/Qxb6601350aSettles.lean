import Derived.Test.Qxb6601350aMark
namespace Go.Proofs.Qxb6601350a
open Go.RowKit
set_option linter.unusedVariables false

def Goal (w : World) (e : Ending) (w' : World) : Prop := e = .returned (.bool true) ∧ Below w.heap.size w w'
theorem Goal.mk {w w' : World} (h : Below w.heap.size w w') : Goal w (.returned (.bool true)) w' := ⟨rfl, h⟩

set_option maxHeartbeats 400000 in
theorem zzMark_any (t m : ByteArray) (a : Option Addr) (cap0 : Nat) (ps : List Nat) (w : World) (h0 : t.size ≤ 1048576) (hm : m.size = t.size) (hl : ps.length ≤ 1048576)
    (hs : Shows w.heap.size w a ps.length (fun i => .int .i64 (ps.getD i 0 : Nat))) (hps : ∀ i, i < ps.length → ps.getD i 0 < t.size) (hinc : ∀ i j, i < j → j < ps.length → ps.getD i 0 < ps.getD j 0) :
    Calls Try.prog 17 #[.string t, .string m, .slice a ps.length cap0] w (MbPost t m ps w) := by
  have HM : Hid (m.size = t.size) := hm
  clear hm
  go_enter Try.func17, Try.ntmps17
  go_wp2_with fail
  refine (mark_any t m a cap0 ps w h0 HM.out hl hs hps hinc).mono ?_
  rintro e w' ⟨rfl, hb⟩
  go_wp2
  go_ret2
  exact ⟨rfl, hb⟩

theorem zzMark_named (t m : ByteArray) (a : Option Addr) (cap0 len : Nat) (ps : List Nat) (gs : ByteArray) (ba : Bool) (w : World) (h0 : t.size ≤ 1048576) (hm : m.size = t.size) (hlen : ps.length = len) (hl : len ≤ 1048576)
    (hs : Shows w.heap.size w a len (fun i => .int .i64 (ps.getD i 0 : Nat))) (hps : ∀ i, i < ps.length → ps.getD i 0 < t.size) (hinc : ∀ i j, i < j → j < ps.length → ps.getD i 0 < ps.getD j 0)
    (hgs : gs = ⟨(zmask m.data.toList (mbP t.data.toList ps)).toArray⟩) (hba : ba = !(mbP t.data.toList ps).isEmpty) :
    Calls Try.prog 17 #[.string t, .string m, .slice a len cap0] w fun e w' => e = .returned (.tuple #[.string gs, .bool ba]) ∧ Below w.heap.size w w' := by
  subst hlen hgs hba
  exact zzMark_any t m a cap0 ps w h0 hm hl hs hps hinc

def offs (f : Nat → Int) (len : Nat) : List Nat := (List.range len).map fun i => (f i).toNat
theorem offs_len (f : Nat → Int) (len : Nat) : (offs f len).length = len := by simp [offs]
theorem offs_at (f : Nat → Int) (len i : Nat) (h : i < len) : (offs f len).getD i 0 = (f i).toNat := by simp [offs, List.getD_eq_getElem?_getD, h]

theorem fits_inc {n m len : Nat} {f : Nat → Int} (h : Fits n m len f) : ∀ (j i : Nat), i < j → j < len → f i < f j
  | 0, i, h1, h2 => by omega
  | j + 1, i, h1, h2 => by
    have := (h.2 (j + 1) h2).2.2 (by omega)
    rw [Nat.add_sub_cancel] at this
    by_cases e : i = j
    · rw [e]; exact this
    · have := fits_inc h j i (by omega) (by omega); omega

theorem fits_offs {n m len : Nat} {f : Nat → Int} (h : Fits n m len f) :
    (∀ i, i < (offs f len).length → (offs f len).getD i 0 < n) ∧ (∀ i j, i < j → j < (offs f len).length → (offs f len).getD i 0 < (offs f len).getD j 0) ∧ ∀ i, i < len → ((offs f len).getD i 0 : Int) = f i := by
  refine ⟨fun i hi => ?_, fun i j h1 h2 => ?_, fun i hi => ?_⟩
  · rw [offs_len] at hi
    rw [offs_at f len i hi]; have := h.2 i hi; omega
  · rw [offs_len] at h2
    rw [offs_at f len i (by omega), offs_at f len j h2]
    have := fits_inc h j i h1 h2
    have := h.2 i (by omega)
    omega
  · rw [offs_at f len i hi]; have := h.2 i hi; omega

theorem info5 : (Try.prog.info? 5).map (fun i => (i.zero, i.size, i.bytes)) = some (some (.int .u8 0), 1, 1) := by kernel_rfl

theorem cells_all {cur : List Value} {n : Nat} {c : UInt8} (hl : cur.length = n) (h : ∀ i, i < n → cur[i]? = some (.int .u8 c.toNat)) : cur = Lib.byteCells (List.replicate n c) := by
  apply List.ext_getElem?
  intro i
  by_cases hi : i < n
  · rw [h i hi]; simp [Lib.byteCells, hi]
  · rw [List.getElem?_eq_none (by omega), List.getElem?_eq_none (by simp [Lib.byteCells]; omega)]

def opInt : Option Nat → Int
  | none => -1
  | some q => q

def SettlesArgs (t m : ByteArray) (a : Option Addr) (len : Nat) (f : Nat → Int) (w : World) : Prop :=
  t.size ≤ maxLen ∧ m.size ≤ maxLen ∧ len ≤ maxLen ∧ (a = none → len = 0) ∧ Shows w.heap.size w a len (fun i => .int .i64 (f i)) ∧ ∀ i, -9223372036854775808 ≤ f i ∧ f i ≤ 9223372036854775807

set_option maxHeartbeats 4000000 in
set_option maxRecDepth 100000 in
theorem settles_any (t m : ByteArray) (a : Option Addr) (len cap : Nat) (f : Nat → Int) (w : World) (H : SettlesArgs t m a len f w) :
    Calls Try.prog 5 #[.string t, .string m, .slice a len cap] w (Goal w) := by
  obtain ⟨h0, h1, h2, hn, hs, hb⟩ := H
  obtain ⟨i0, hi, hz0, hz1, hz2⟩ := info_parts info5
  go_enter Try.func5, Try.ntmps5
  go_wp2_with fail
  refine (zzBytes_settles t m a len cap w h0 h1 h2).mono ?_
  rintro e w' ⟨b, rfl, rfl, hbb⟩
  cases b with
  | false =>
    go_wp2
    go_ret
    exact Goal.mk (Below.refl _ _)
  | true =>
    have hbb' := hbb rfl
    clear hbb h0 h1 h2
    have q0 : t.size ≤ 1048576 := by omega
    have q1 : m.size ≤ 1048576 := by omega
    by_cases q2 : len ≤ 131072
    · by_cases q3 : t.size + m.size + 8 * len ≤ 1048576
      · clear hbb'
        go_wp2_with fail
        refine (fit_any t m a len cap f w q0 q1 (by omega) hs hb).mono ?_
        rintro e w1 ⟨b, rfl, hb1, hfit⟩
        cases b with
        | false =>
          go_wp2
          go_ret
          exact Goal.mk hb1
        | true =>
          have HFit : Hid (Fits t.size m.size len f) := hfit rfl
          have hb1z := hb1.size
          clear hfit
          go_wp2_with fail
          refine (clone_any a len cap f w1 (by omega) hn (fun i hi => by obtain ⟨b, off, e1, e2, e3⟩ := (hs.below hb1) i hi; exact ⟨b, off, e1, by omega, e3⟩)).mono ?_
          rintro e w2 ⟨a', cap', rfl, hb2, hs2⟩
          have hb2' := hb1.trans (hb2.mono hb1z)
          obtain ⟨ps, hps⟩ : ∃ ps, ps = offs f len := ⟨_, rfl⟩
          have HO := fits_offs HFit.out
          have hpl : ps.length = len := by rw [hps]; exact offs_len f len
          rw [← hps] at HO
          have hs3 : Shows w2.heap.size w2 a' len (fun i => .int .i64 (ps.getD i 0 : Nat)) := fun i hi => by
            obtain ⟨b, off, e1, e2, e3⟩ := hs2 i hi
            exact ⟨b, off, e1, e2, by rw [e3]; show some (Value.int _ (f i)) = some (Value.int _ _); rw [HO.2.2 i hi]⟩
          obtain ⟨P, hP⟩ : ∃ P, P = mbP t.data.toList ps := ⟨_, rfl⟩
          obtain ⟨gs, hgs⟩ : ∃ gs : ByteArray, gs = ⟨(zmask m.data.toList (mbP t.data.toList ps)).toArray⟩ := ⟨_, rfl⟩
          obtain ⟨ba, hba⟩ : ∃ ba, ba = !(mbP t.data.toList ps).isEmpty := ⟨_, rfl⟩
          have HM : Hid (m.size = t.size) := HFit.out.1
          have HPS : Hid ((∀ i, i < ps.length → ps.getD i 0 < t.size) ∧ (∀ i j, i < j → j < ps.length → ps.getD i 0 < ps.getD j 0)) := ⟨HO.1, HO.2.1⟩
          have HPL : Hid (ps.length = len) := hpl
          have HGS : Hid (gs = ⟨(zmask m.data.toList (mbP t.data.toList ps)).toArray⟩) := hgs
          have HBA : Hid (ba = !(mbP t.data.toList ps).isEmpty) := hba
          have HPP : Hid (P = mbP t.data.toList ps) := hP
          have HGZ : Hid (gs.size = t.size) := by
            show _ = _
            rw [hgs, Lib.size_eq]; simp only; rw [zmask_len, ← Lib.size_eq]; exact HM.out
          clear hps HO hs2 hs hn hpl hgs hba hP hb HFit hb1 hb2 hb1z
          go_wp2_with fail
          refine (zzMark_named t m a' cap' len ps gs ba w2 q0 HM.out HPL.out (by omega) hs3 HPS.out.1 HPS.out.2 HGS.out HBA.out).mono ?_
          rintro e w3 ⟨rfl, hb3⟩
          have hb3w := hb2'.trans (hb3.mono hb2'.size)
          have hb3z := hb3.size
          go_wp2_with (at_make; go_must (refine wpList_make_full _ rfl _ _ 32 rfl w3.heap.size 5 i0 (.int .u8 0) 1 Try.underlying32 hi hz0 hz1 .i64 .i64 _ _ t.size rfl rfl rfl rfl ?a1 ?a2 ?a3 ?_))
          case a1 => rw [hz2]; omega
          case a2 => unfold maxLen; omega
          case a3 => exact Nat.le_refl _
          intro w4 hown4 hgrow4
          have hb4 : Below w3.heap.size w3 w4 := (Below.refl _ w3).grown hgrow4 (Nat.le_refl _) (fun k hk => by cases hk)
          clear hgrow4
          go_wp2
          go_loopw [10] (fun i wr => ∃ (k : Nat) (cur : List Value), k ≤ t.size ∧ i = .int .i64 k ∧ wr.ownsRow w3.heap.size 5 1 (.slice (some ⟨w3.heap.size, 0, none⟩) t.size t.size) t.size cur ∧ Hid (∀ i, i < k → cur[i]? = some (.int .u8 120)) ∧ Below w3.heap.size w3 wr) (fun i _ => t.size - (intOf i).toNat)
          case atStart => exact ⟨0, _, by omega, rfl, hown4, fun i hi => by omega, hb4⟩
          case round =>
            rename World => W
            obtain ⟨k, cur, hk, rfl, hown, HC, hbel⟩ := hrel
            have hcl : cur.length = t.size := by have := hown.1; omega
            by_cases hlt : k < t.size
            · have hck : W.cell? ⟨w3.heap.size, k, none⟩ = some (cur[k]'(by omega)) := by rw [hown.cellAt k (by omega)]; exact List.getElem?_eq_getElem (by omega)
              have hfz := hown.frozenAt k
              have HST : Hid _ := hown.stored k (.int .u8 120)
              generalize cur[k]'(by omega) = ck at hck
              go_wp2
              go_roundw
              case rel =>
                refine ⟨k + 1, cur.set k (.int .u8 120), by omega, by go_num, HST.out.1, fun i hi => ?_, hbel.setCell (Nat.le_refl _) _⟩
                by_cases e : i = k
                · subst e; simp [hcl, hlt]
                · rw [List.getElem?_set_ne (by omega)]; exact HC.out i (by omega)
              case measure => simp [intOf]; omega
            · obtain rfl : k = t.size := by omega
              have hcur : cur = Lib.byteCells (List.replicate t.size 120) := cells_all hcl (fun i hi => HC.out i hi)
              rw [hcur] at hown
              have hstr := (Row.own hown).str (cap := t.size) (n := t.size) (by simp)
              obtain ⟨xs, hxs⟩ : ∃ xs : ByteArray, xs = ⟨(List.replicate t.size 120).toArray⟩ := ⟨_, rfl⟩
              rw [← hxs] at hstr
              have HXS : Hid (xs = ⟨(List.replicate t.size 120).toArray⟩) := hxs
              obtain ⟨pl, hpl⟩ : ∃ pl : ByteArray, pl = ⟨(zmask xs.data.toList (mbP t.data.toList ps)).toArray⟩ := ⟨_, rfl⟩
              have HPLN : Hid (pl = ⟨(zmask xs.data.toList (mbP t.data.toList ps)).toArray⟩) := hpl
              have HXZ : Hid (xs.size = t.size) := by show _ = _; rw [hxs, Lib.size_eq]; simp
              have hWs : Shows W.heap.size W a' len (fun i => .int .i64 (ps.getD i 0 : Nat)) := fun i hi => by
                have hz1 := hbel.size
                obtain ⟨b, off, e1, e2, e3⟩ := (hs3.below (hb3.trans (hbel.mono hb3z))) i hi
                exact ⟨b, off, e1, by omega, e3⟩
              have hWw := hb3w.trans (hbel.mono (by have := hb3w.size; omega))
              clear hcur hown HC hxs hpl hcl hb4 hown4 hs3 hb3 hb3w hb3z hbel hb2'
              go_wp2_with fail
              refine (zzMark_named t xs a' cap' len ps pl ba W q0 HXZ.out HPL.out (by omega) hWs HPS.out.1 HPS.out.2 HPLN.out HBA.out).mono ?_
              rintro e w5 ⟨rfl, hb5⟩
              have hW5 := hWw.trans (hb5.mono hWw.size)
              have hs5 : Shows w5.heap.size w5 a' len (fun i => .int .i64 (ps.getD i 0 : Nat)) := fun i hi => by
                have hz1 := hb5.size
                obtain ⟨b, off, e1, e2, e3⟩ := (hWs.below hb5) i hi
                exact ⟨b, off, e1, by omega, e3⟩
              clear hWs hWw hb5
              go_wp2_with fail
              refine (zzMark_named t gs a' cap' len ps gs ba w5 q0 HGZ.out HPL.out (by omega) hs5 HPS.out.1 HPS.out.2 (by rw [HGS.out]; simp only; rw [zmask_twice]) HBA.out).mono ?_
              rintro e w6 ⟨rfl, hb6⟩
              have hW6 := hW5.trans (hb6.mono hW5.size)
              have hs6 : Shows w6.heap.size w6 a' len (fun i => .int .i64 (ps.getD i 0 : Nat)) := fun i hi => by
                have hz1 := hb6.size
                obtain ⟨b, off, e1, e2, e3⟩ := (hs5.below hb6) i hi
                exact ⟨b, off, e1, by omega, e3⟩
              clear hs5 hW5 hb6
              have HPd : Hid (pl.data.toList = zmask (List.replicate t.size 120) P) := by
                show _ = _
                rw [HPLN.out, HXS.out, HPP.out]
              have HGd : Hid (gs.data.toList = zmask m.data.toList P) := by
                show _ = _
                rw [HGS.out, HPP.out]
              have HPz : Hid (pl.size = t.size) := by
                show _ = _
                rw [Lib.size_eq, HPd.out, zmask_len]; simp
              have z1 : ((gs.size : Int) != (t.size : Int)) = false := by rw [HGZ.out]; simp
              have z2 : ((pl.size : Int) != (t.size : Int)) = false := by rw [HPz.out]; simp
              have z3 : t.size ≤ gs.size := by have := HGZ.out; omega
              have z4 : t.size ≤ pl.size := by have := HPz.out; omega
              have z5 : t.size ≤ m.size := by have := HM.out; omega
              have HOK : Hid (okP ps t.data.toList 0 P) := by
                rw [HPP.out]
                refine mbP_ok ps t.data.toList _ ps 0 (Nat.le_refl _) ?_ (fun x hx => ⟨Nat.zero_le _, hx⟩)
                rw [List.pairwise_iff_getElem]
                intro i j hi hj hij
                have := HPS.out.2 i j hij hj
                simpa [List.getD_eq_getElem?_getD, hi, hj] using this
              go_wp2
              clear z1 z2
              go_loopw [15, 16, 17, 18] (fun o c kk i wr => ∃ (i' : Nat) (op : Option Nat) (cnt k : Nat), i' ≤ t.size ∧ i = .int .i64 i' ∧ ((op = none ∧ o = .int .i64 (-1)) ∨ ∃ q : Nat, op = some q ∧ o = .int .i64 q ∧ q < i') ∧ c = .int .i64 cnt ∧ kk = .int .i64 k ∧ k ≤ len ∧ cnt ≤ i' ∧ Hid (∀ j, j < k → ps.getD j 0 < i') ∧ Hid (Stands ps t.data.toList P i' op cnt) ∧ Below w6.heap.size w6 wr) (fun _ _ _ i _ => t.size - (intOf i).toNat)
              case atStart => exact ⟨0, none, 0, 0, by omega, rfl, .inl ⟨rfl, rfl⟩, rfl, rfl, by omega, by omega, fun j hj => by omega, Stands.start HOK.out, Below.refl _ _⟩
              case round =>
                obtain ⟨i, op, cnt, k, hi', rfl, hop, rfl, rfl, hk, hci, HK, HST, hbr⟩ := hrel
                by_cases hlt : i < t.size
                · have hpli : pl[i] = if marked P i then 0 else 120 := by
                    rw [get_text i (by omega), HPd.out, zmask_get _ _ _ (by simp; exact hlt)]
                    simp [List.getD_eq_getElem?_getD, hlt]
                  have hgsi : gs[i] = if marked P i then 0 else m[i] := by
                    rw [get_text i (by omega), HGd.out, zmask_get _ _ _ (by rw [← Lib.size_eq]; omega), get_text (t := m) i (by omega)]
                  cases hmk : marked P i
                  · rw [hmk] at hpli hgsi
                    have hpl' : pl[i] = 120 := hpli
                    have hgs' : gs[i] = m[i] := hgsi
                    have b0 : (0 : Int) ≤ (i : Int) := by omega
                    have b1 : (i : Int) < (pl.size : Int) := by omega
                    have b2 : (i : Int) < (gs.size : Int) := by omega
                    have b3 : (i : Int) < (m.size : Int) := by omega
                    clear hpli hgsi
                    rcases hop with ⟨rfl, rfl⟩ | ⟨q, rfl, rfl, hqi⟩
                    · have H3 : Hid (Stands ps t.data.toList P (i + 1) none cnt) := HST.out.none_no hmk
                      clear hmk
                      go_wp2
                      go_quiet (fail)
                      go_wp2
                      go_roundw
                      case rel => exact ⟨i + 1, none, cnt, k, by omega, by go_num, .inl ⟨rfl, rfl⟩, rfl, rfl, hk, by omega, fun j hj => by have := HK.out j hj; omega, H3, below_drewN hbr _⟩
                      case measure => simp [intOf]; omega
                    · obtain ⟨hns, h3⟩ := HST.out.some_no hmk
                      have H3 : Hid (Stands ps t.data.toList P (i + 1) (some q) cnt) := h3
                      have hti : t[i] = t.data.toList.getD i 0 := get_text i hlt
                      have hne : (((t.data.toList.getD i 0).toNat : Int) == 47) = false := by simpa using beq_u8 (n := 47) (by decide) hns
                      generalize t.data.toList.getD i 0 = c at hti hne
                      clear hmk hns h3
                      go_wp2
                      go_quiet (fail)
                      go_wp2
                      go_roundw
                      case rel => exact ⟨i + 1, some q, cnt, k, by omega, by go_num, .inr ⟨q, rfl, rfl, by omega⟩, rfl, rfl, hk, by omega, fun j hj => by have := HK.out j hj; omega, H3, below_drewN hbr _⟩
                      case measure => simp [intOf]; omega
                  · rw [hmk] at hpli hgsi
                    have hpl' : pl[i] = 0 := hpli
                    have hgs' : gs[i] = 0 := hgsi
                    clear hpli hgsi
                    rcases hop with ⟨rfl, rfl⟩ | ⟨q, rfl, rfl, hqi⟩
                    · skip
                      obtain ⟨y1, y2, y3⟩ := HST.out.none_yes hmk
                      have H3 : Hid (Stands ps t.data.toList P (i + 1) (some i) cnt) := y3
                      have htv : t[i] = 91 := by rw [get_text i hlt]; exact y1
                      have HIN : Hid (∃ j0, j0 < ps.length ∧ ps.getD j0 0 = i) := by
                        obtain ⟨j0, h1, h2⟩ := List.mem_iff_getElem.1 y2
                        exact ⟨j0, h1, by simp [List.getD_eq_getElem?_getD, h1, h2]⟩
                      clear y1 y3 hmk y2
                      go_wp2
                      go_loop [17] (fun kk => ∃ k' : Nat, kk = .int .i64 k' ∧ k' ≤ len ∧ Hid (∀ j, j < k' → ps.getD j 0 < i)) (fun kk => len - (intOf kk).toNat)
                      case atStart => exact ⟨k, rfl, hk, HK⟩
                      case round =>
                        obtain ⟨k', rfl, hk', HK2⟩ := hrel
                        by_cases hltk : k' < len
                        · obtain ⟨b, off, rfl, hbB, h3⟩ := (hs6.below hbr) k' hltk
                          have h3' : wr.cell? ⟨b, off + k', none⟩ = some (.int .i64 (ps.getD k' 0 : Nat)) := h3
                          clear h3
                          by_cases hei : ps.getD k' 0 < i
                          · have HEI := hei
                            have HE2 : Hid (ps.getD k' 0 < i) := hei
                            have hez : (ps.getD k' 0 : Int) < (i : Int) := by omega
                            have HK3 : Hid (∀ j, j < k' + 1 → ps.getD j 0 < i) := fun j hj => by
                              by_cases e : j = k'
                              · rw [e]; exact HE2.out
                              · exact HK2.out j (by omega)
                            clear hei HEI
                            generalize ps.getD k' 0 = e at h3' hez
                            go_wp2
                            go_round
                            case rel => exact ⟨k' + 1, by go_num, by omega, HK3⟩
                            case measure => simp [intOf]; omega
                          · have hee : ps.getD k' 0 = i := by
                              obtain ⟨j0, h1, h2⟩ := HIN.out
                              have hj0 : ¬ j0 < k' := fun h => by have := HK2.out j0 h; omega
                              by_cases e : j0 = k'
                              · rw [← e]; exact h2
                              · have := HPS.out.2 k' j0 (by omega) h1
                                omega
                            rw [hee] at h3'
                            have hii : ((i : Int) != (i : Int)) = false := by simp
                            clear hei hee
                            go_wp2
                            go_roundw
                            case rel => exact ⟨i + 1, some i, cnt, k', by omega, by go_num, .inr ⟨i, rfl, rfl, by omega⟩, rfl, rfl, by omega, by omega, fun j hj => by have := HK2.out j hj; omega, H3, hbr⟩
                            case measure => simp [intOf]; omega
                        · obtain ⟨j0, h1, h2⟩ := HIN.out
                          have hj0 := HK2.out j0 (by have := HPL.out; omega)
                          omega
                    · skip
                      obtain ⟨y1, y4, y2, y3⟩ := HST.out.some_yes hmk
                      have H3 : Hid (Stands ps t.data.toList P (i + 1) none (cnt + 1)) := y3
                      have htv : t[i] = 93 := by rw [get_text i hlt]; exact y1
                      have hq1 : ((i : Int) == (q : Int) + 1) = false := by simp only [beq_eq_false_iff_ne, ne_eq]; omega
                      have HIN : Hid (∃ j0, j0 < ps.length ∧ ps.getD j0 0 = i) := by
                        obtain ⟨j0, h1, h2⟩ := List.mem_iff_getElem.1 y2
                        exact ⟨j0, h1, by simp [List.getD_eq_getElem?_getD, h1, h2]⟩
                      clear y1 y3 y4 hmk y2
                      go_wp2
                      go_loop [17] (fun kk => ∃ k' : Nat, kk = .int .i64 k' ∧ k' ≤ len ∧ Hid (∀ j, j < k' → ps.getD j 0 < i)) (fun kk => len - (intOf kk).toNat)
                      case atStart => exact ⟨k, rfl, hk, HK⟩
                      case round =>
                        obtain ⟨k', rfl, hk', HK2⟩ := hrel
                        by_cases hltk : k' < len
                        · obtain ⟨b, off, rfl, hbB, h3⟩ := (hs6.below hbr) k' hltk
                          have h3' : wr.cell? ⟨b, off + k', none⟩ = some (.int .i64 (ps.getD k' 0 : Nat)) := h3
                          clear h3
                          by_cases hei : ps.getD k' 0 < i
                          · have HEI := hei
                            have HE2 : Hid (ps.getD k' 0 < i) := hei
                            have hez : (ps.getD k' 0 : Int) < (i : Int) := by omega
                            have HK3 : Hid (∀ j, j < k' + 1 → ps.getD j 0 < i) := fun j hj => by
                              by_cases e : j = k'
                              · rw [e]; exact HE2.out
                              · exact HK2.out j (by omega)
                            clear hei HEI
                            generalize ps.getD k' 0 = e at h3' hez
                            go_wp2
                            go_round
                            case rel => exact ⟨k' + 1, by go_num, by omega, HK3⟩
                            case measure => simp [intOf]; omega
                          · have hee : ps.getD k' 0 = i := by
                              obtain ⟨j0, h1, h2⟩ := HIN.out
                              have hj0 : ¬ j0 < k' := fun h => by have := HK2.out j0 h; omega
                              by_cases e : j0 = k'
                              · rw [← e]; exact h2
                              · have := HPS.out.2 k' j0 (by omega) h1
                                omega
                            rw [hee] at h3'
                            have hii : ((i : Int) != (i : Int)) = false := by simp
                            clear hei hee
                            go_wp2
                            go_roundw
                            case rel => exact ⟨i + 1, none, cnt + 1, k', by omega, by go_num, .inl ⟨rfl, rfl⟩, by go_num, rfl, by omega, by omega, fun j hj => by have := HK2.out j hj; omega, H3, hbr⟩
                            case measure => simp [intOf]; omega
                        · obtain ⟨j0, h1, h2⟩ := HIN.out
                          have hj0 := HK2.out j0 (by have := HPL.out; omega)
                          omega
                · obtain rfl : i = t.size := by omega
                  obtain ⟨ho, hc⟩ := HST.out.fin (fun x hx => by
                    obtain ⟨j0, h1, h2⟩ := List.mem_iff_getElem.1 hx
                    have := HPS.out.1 j0 h1
                    simpa [List.getD_eq_getElem?_getD, h1, h2] using this)
                  rcases hop with ⟨rfl, rfl⟩ | ⟨q, rfl, rfl, hqi⟩
                  · have HBA2 : ba = decide ((0 : Int) < (cnt : Int)) := by
                      rw [HBA.out, ← HPP.out, hc]
                      cases P with
                      | nil => rfl
                      | cons x r => simp
                    clear hc ho
                    have HB3 : Hid (ba = decide ((0 : Int) < (cnt : Int))) := HBA2
                    clear HBA2
                    have HE : Hid ((decide (0 < cnt) == ba) = true) := by
                      rw [HB3.out]
                      show _ = _
                      have : decide ((0 : Int) < (cnt : Int)) = decide (0 < cnt) := by
                        rw [decide_eq_decide]; omega
                      rw [this]; simp
                    go_wp2
                    go_ret
                    show Goal w (.returned (.bool (decide (0 < cnt) == ba))) _
                    rw [HE.out]
                    exact Goal.mk (hW6.trans (hbr.mono hW6.size))
                  · cases ho
      · clear hb hs
        go_wp2
        go_ret
        exact Goal.mk (Below.refl _ _)
    · clear hb hs
      go_wp2
      go_ret
      exact Goal.mk (Below.refl _ _)

end Go.Proofs.Qxb6601350a
