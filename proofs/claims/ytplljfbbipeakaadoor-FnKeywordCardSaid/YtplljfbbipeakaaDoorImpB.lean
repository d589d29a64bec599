/- impl.scan, walked. -/
import Derived.Test.YtplljfbbipeakaaDoorImpA
import Derived.Test.YtplljfbbipeakaaDoorScanZ
import Derived.Deep.RegionHeld3
namespace Go.Proofs.YtplljfbbipeakaaDoor
open Go Go.RowKit Go.Maps Go.WideMaps Go.WideElems

set_option maxHeartbeats 4000000 in
set_option maxRecDepth 100000 in
theorem implScan_walk {kh : List UInt8 → Bool} {kt : List UInt8 → Int} {bs : ByteArray} {mv : Value} {ms : List (List UInt8)} {white : Bool} {w : World} {ts : List TI} {te : TI}
    (hB : Base w.heap.size kh kt w) (hsz : bs.size ≤ 274877906944) (hM : StrsAt mv ms w) (hml : ms.length ≤ 4294967296) (hmw : ∀ m ∈ ms, m.length ≤ maxLen)
    (hC : Chain (kwAll kh kt ms).1 (kwAll kh kt ms).2 bs (sNew bs) ts te.s) (hT : Tok (kwAll kh kt ms).1 (kwAll kh kt ms).2 bs te.s te.s' te.tk te.lit) (hte : te.tk = 1) (hlen : ts.length ≤ 2 * bs.size + 7)
    (hrange : ∀ t ∈ ts ++ [te], 0 ≤ t.tk ∧ t.tk ≤ 255) (herr : errsL (ts ++ [te]) ≤ 1152921504606846976) :
    Calls Tryd.prog 33 #[.string bs, mv, .bool white] w (ImpPost w.heap.size (ts ++ [te]) white w) := by
  have HB := Lib.hid hB
  have HM := Lib.hid hM
  have HMW := Lib.hid hmw
  have HC := Lib.hid hC
  have HT := Lib.hid hT
  have HTE := Lib.hid hte
  have HRG := Lib.hid hrange
  clear hB hM hmw hC hT hte hrange
  go_enter Tryd.func33, Tryd.ntmps33
  go_wp2_with fail
  refine (newReader_walk bs w).mono ?_
  rintro e w1 ⟨rfl, e1⟩
  have hr := heap_alloc_new w (.cells #[.string bs, .int .i64 0, .int .i64 (-1)] 90)
  have hb1 : Below w.heap.size w (w.alloc (.cells #[.string bs, .int .i64 0, .int .i64 (-1)] 90)) := (Below.refl _ _).alloc (Nat.le_refl _) _
  rw [e1] at hr hb1
  have hB1 := HB.out.below hb1
  have HR := Lib.hid hr
  have HB1 := Lib.hid hB1
  have Hb1 := Lib.hid hb1
  clear e1 hr hb1 hB1
  go_wp2_with fail
  refine (new_walk HB1.out (Nat.le_refl _) HR.out hsz).mono ?_
  rintro e w2 ⟨sb, kb, bb, rfl, hS, hK, hkb, hb2⟩
  have hA : MoreAt w.heap.size sb kb bb bs (sNew bs) kh kt w ms 0 w2 := ⟨Nat.zero_le _, hS, hK, Hb1.out.trans hb2⟩
  have HA := Lib.hid hA
  obtain ⟨ao, mc, rfl, hM2⟩ := HM.out
  have hM2 := Lib.hid hM2
  clear hS hK hb2 hA
  go_wp2_with fail
  go_loopg [30] ms.length (fun g i wr => g ≤ ms.length ∧ i = .int .i64 ((ms.length - g : Nat) : Int) ∧ MoreAt w.heap.size sb kb bb bs (sNew bs) kh kt w ms (ms.length - g) wr)
  case atStart => exact ⟨Nat.le_refl _, by simp, by rw [Nat.sub_self]; exact HA.out⟩
  case round =>
    obtain ⟨hg, rfl, hA⟩ := hrel
    have HA := Lib.hid hA
    clear hA
    cases gk with
    | zero =>
      go_wp2_with fail
      have h0 : ImpRel w.heap.size sb kb bb (50 + 2 * ms.length) bs (kwAll kh kt ms).1 (kwAll kh kt ms).2 white w te.s [] ts (sNew bs) (.slice none 0 0) wr := by
        have h := HA.out
        rw [Nat.sub_zero] at h
        have hk := h.kws
        rw [List.take_length] at hk
        exact ⟨h.scn, hk, h.below, ⟨rfl, Or.inl ⟨rfl, rfl⟩⟩, HC.out⟩
      have H0 := Lib.hid h0
      clear h0 HA
      generalize (kwAll kh kt ms).1 = kh2 at *
      generalize (kwAll kh kt ms).2 = kt2 at *
      go_loopg [6, 7, 49] ts.length (fun g l er i wr => ∃ (done rest : List TI) (s : SS), Hid (ts = done ++ rest) ∧ g = rest.length ∧ done.length + rest.length ≤ 2 * bs.size + 7 ∧ i = .int .i64 (done.length : Nat) ∧ er = .int .i64 (errsL done : Nat) ∧ ImpRel w.heap.size sb kb bb (50 + 2 * ms.length) bs kh2 kt2 white w te.s done rest s l wr)
      case atStart => exact ⟨[], ts, sNew bs, Lib.hid rfl, rfl, by simpa using hlen, rfl, rfl, H0.out⟩
      case round =>
        obtain ⟨done, rest, s, HTS, hg, hdl, rfl, rfl, hI⟩ := hrel
        have HI := Lib.hid hI
        clear hI
        have hkl := kept_le white done
        have hm0 : (kept white done).length + 1 ≤ maxLen := by unfold maxLen; omega
        have hbt0 : ((kept white done).length + 1) * 56 ≤ 140737488355328 := by omega
        obtain ⟨i0, hi, hz0, hz1, hz2⟩ := info_parts info40
        cases rest with
        | nil =>
          have hch := HI.out.chain
          have ets : s = te.s := hch
          subst ets
          have hsc := scan_any HI.out.scn (HI.out.kws.kws (by omega)) HT.out
          have hrt := HRG.out te (by simp)
          have hts : ts = done := by rw [HTS.out, List.append_nil]
          have her : errsL (ts ++ [te]) = errsL done + te.s'.errs := by rw [hts, errsL_snoc]
          have her2 : (errsL done : Int) + (te.s'.errs : Int) ≤ 1152921504606846976 := by omega
          have HER := Lib.hid her
          have HTS2 := Lib.hid hts
          have hq1 : (te.tk == 1) = true := by rw [HTE.out]; rfl
          have hq2 : (te.tk == 2) = false := by rw [HTE.out]; rfl
          have hq2' : (te.tk != 2) = true := by rw [HTE.out]; rfl
          have hkp : keepB white te = true := by unfold keepB; rw [HTE.out]; cases white <;> rfl
          have HKP := Lib.hid hkp
          have HSC := Lib.hid hsc
          clear hsc hch hkp hts her
          have hdl2 : (done.length : Int) < 2 * (bs.size : Int) + 8 := by simp only [List.length_nil] at hdl; omega
          go_wp2_with fail
          refine HSC.out.mono ?_
          rintro e w5 ⟨ta, tn, tc, ea, ec, rfl, hs5, hk5⟩
          have hq0 := HI.out.end_scanned hs5 hk5 (posObj te ta tn tc)
          have HQ := Lib.hid hq0
          clear hs5 hk5 hq0
          have hq := HQ.out
          have hq2 := q_alloc hq (tokObj te te.tk)
          have hown := hq2.2.2.2
          have hnews := tok_news te rfl w5 (posObj te ta tn tc)
          have hbs : w.heap.size ≤ ((w5.alloc (posObj te ta tn tc)).alloc (tokObj te te.tk)).heap.size := hq2.1.mem.bw
          have HOWN := Lib.hid hown
          have HNW := Lib.hid hnews
          have HBS := Lib.hid hbs
          have HQ2 := Lib.hid hq2
          clear hq hq2 hown hnews hbs
          go_wp2_with (at_builtin; refine wpList_append_own_at _ rfl (.tmp 67) (.tmp 80) 33 rfl w.heap.size 40 i0 _ 6 56 Tryd.underlying33 hi hz0 hz1 hz2 rfl (by decide) _ _ _ rfl HOWN.out ⟨w5.heap.size + 1, 0, none⟩ 1 1 te.cells rfl rfl HNW.out (cells_one te) hm0 hbt0 HBS.out ?_; intro v6 w6 hown6 hgr6 _ _; have HOWN6 := Lib.hid hown6; have HGR6 := Lib.hid hgr6; clear hown6 hgr6)
          go_ret3
          refine ⟨v6, ?_, ?_, ?_⟩
          · rw [HER.out]; exact congrArg (fun k : Int => Ending.returned (.tuple #[v6, .int .i64 k, .bool true])) (by omega)
          · rw [HTS2.out, kept_snoc, if_pos HKP.out, List.length_append, cellsL_app]
            simpa [cellsL] using HOWN6.out
          · exact HQ2.out.2.2.1.grown HGR6.out HBS.out (fun k e => (HOWN.out.lt k e).1)
        | cons t rest =>
          have hch := HI.out.chain
          obtain ⟨ets, htok, htk1, hch2⟩ := hch
          subst ets
          have HCH := Lib.hid (show Chain kh2 kt2 bs t.s (t :: rest) te.s from HI.out.chain)
          have hsc := scan_any HI.out.scn (HI.out.kws.kws (by omega)) htok
          have hrt := HRG.out t (by rw [HTS.out]; simp)
          have hq1 : (t.tk == 1) = false := by simpa using htk1
          have her2 : (errsL done : Int) + (t.s'.errs : Int) ≤ 1152921504606846976 := by
            have h1 := errsL_le (done ++ [t]) (rest ++ [te])
            have h2 : ts ++ [te] = done ++ [t] ++ (rest ++ [te]) := by rw [HTS.out]; simp
            rw [errsL_snoc, ← h2] at h1
            omega
          have hsum : ((errsL done : Nat) : Int) + (t.s'.errs : Int) = ((errsL (done ++ [t]) : Nat) : Int) := by rw [errsL_snoc]; omega
          have HSUM := Lib.hid hsum
          have htn : Hid (ts = (done ++ [t]) ++ rest) := Lib.hid (by rw [HTS.out]; simp)
          have hcnt : ((done.length : Nat) : Int) + 1 = (((done ++ [t]).length : Nat) : Int) := by simp
          have hlen2 : (done ++ [t]).length + rest.length ≤ 2 * bs.size + 7 := by simp at hdl ⊢; omega
          have HCNT := Lib.hid hcnt
          have HSC := Lib.hid hsc
          clear hsc htok htk1 hch2 hsum hcnt
          have hdl2 : (done.length : Int) < 2 * (bs.size : Int) + 8 := by simp only [List.length_cons] at hdl; omega
          by_cases h2 : t.tk = 2
          · have hq2 : (t.tk == 2) = true := by rw [h2]; rfl
            have H2 := Lib.hid h2
            clear h2
            cases white with
            | false =>
              go_wp2_with fail
              refine HSC.out.mono ?_
              rintro e w5 ⟨ta, tn, tc, ea, ec, rfl, hs5, hk5⟩
              have hq0 := HI.out.scanned hs5 hk5 (posObj t ta tn tc)
              have hnx := ImpRel.next HCH.out (white := false) (by unfold keepB; rw [H2.out]; rfl) hq0
              have HNX := Lib.hid hnx
              clear hs5 hk5 hq0 hnx
              go_wp2_with fail
              go_roundg rest.length
              case measure => simp at hg; omega
              case rel => exact ⟨done ++ [t], rest, _, htn, rfl, hlen2, congrArg _ HCNT.out, congrArg _ HSUM.out, HNX.out⟩
            | true =>
              go_wp2_with fail
              refine HSC.out.mono ?_
              rintro e w5 ⟨ta, tn, tc, ea, ec, rfl, hs5, hk5⟩
              have hq0 := HI.out.scanned hs5 hk5 (posObj t ta tn tc)
              have HQ := Lib.hid hq0
              clear hs5 hk5 hq0
              have hq := HQ.out
              have hq2 := q_alloc hq (tokObj t 2)
              have hown := hq2.2.2.2
              have hnews := tok_news t H2.out w5 (posObj t ta tn tc)
              have hbs : w.heap.size ≤ ((w5.alloc (posObj t ta tn tc)).alloc (tokObj t 2)).heap.size := hq2.1.mem.bw
              have HOWN := Lib.hid hown
              have HNW := Lib.hid hnews
              have HBS := Lib.hid hbs
              have HQ2 := Lib.hid hq2
              clear hq hq2 hown hnews hbs
              go_wp2_with (at_builtin; refine wpList_append_own_at _ rfl (.tmp 67) (.tmp 80) 33 rfl w.heap.size 40 i0 _ 6 56 Tryd.underlying33 hi hz0 hz1 hz2 rfl (by decide) _ _ _ rfl HOWN.out ⟨w5.heap.size + 1, 0, none⟩ 1 1 t.cells rfl rfl HNW.out (cells_one t) hm0 hbt0 HBS.out ?_; intro v6 w6 hown6 hgr6 _ _; have HOWN6 := Lib.hid hown6; have HGR6 := Lib.hid hgr6; clear hown6 hgr6)
              go_roundg rest.length
              case measure => simp at hg; omega
              case rel => exact ⟨done ++ [t], rest, _, htn, rfl, hlen2, congrArg _ HCNT.out, congrArg _ HSUM.out, ImpRel.keep HCH.out (by rfl) HQ2.out HOWN6.out HGR6.out⟩
          · have hq2 : (t.tk == 2) = false := by simpa using h2
            have hq2' : (t.tk != 2) = true := by simpa using h2
            have hkp : keepB white t = true := by unfold keepB; rw [decide_eq_true h2]; cases white <;> rfl
            have HKP := Lib.hid hkp
            clear h2 hkp
            go_wp2_with fail
            refine HSC.out.mono ?_
            rintro e w5 ⟨ta, tn, tc, ea, ec, rfl, hs5, hk5⟩
            have hq0 := HI.out.scanned hs5 hk5 (posObj t ta tn tc)
            have HQ := Lib.hid hq0
            clear hs5 hk5 hq0
            have hq := HQ.out
            have hq2 := q_alloc hq (tokObj t t.tk)
            have hown := hq2.2.2.2
            have hnews := tok_news t rfl w5 (posObj t ta tn tc)
            have hbs : w.heap.size ≤ ((w5.alloc (posObj t ta tn tc)).alloc (tokObj t t.tk)).heap.size := hq2.1.mem.bw
            have HOWN := Lib.hid hown
            have HNW := Lib.hid hnews
            have HBS := Lib.hid hbs
            have HQ2 := Lib.hid hq2
            clear hq hq2 hown hnews hbs
            go_wp2_with (at_builtin; refine wpList_append_own_at _ rfl (.tmp 67) (.tmp 80) 33 rfl w.heap.size 40 i0 _ 6 56 Tryd.underlying33 hi hz0 hz1 hz2 rfl (by decide) _ _ _ rfl HOWN.out ⟨w5.heap.size + 1, 0, none⟩ 1 1 t.cells rfl rfl HNW.out (cells_one t) hm0 hbt0 HBS.out ?_; intro v6 w6 hown6 hgr6 _ _; have HOWN6 := Lib.hid hown6; have HGR6 := Lib.hid hgr6; clear hown6 hgr6)
            go_roundg rest.length
            case measure => simp at hg; omega
            case rel => exact ⟨done ++ [t], rest, _, htn, rfl, hlen2, congrArg _ HCNT.out, congrArg _ HSUM.out, ImpRel.keep HCH.out HKP.out HQ2.out HOWN6.out HGR6.out⟩
    | succ g =>
      have hk : ms.length - (g + 1) < ms.length := by omega
      obtain ⟨a, rfl, ha, hc⟩ := hM2.out _ hk
      have hcell : wr.cell? (a.add (ms.length - (g + 1))) = some (.string ⟨(ms.getD (ms.length - (g + 1)) []).toArray⟩) := (HA.out.below.cell (p := a.add (ms.length - (g + 1))) (by rw [Addr.add_block]; exact ha)).trans hc
      have hml : (ms.getD (ms.length - (g + 1)) []).length ≤ maxLen := HMW.out _ (by rw [List.getD_eq_getElem?_getD, List.getElem?_eq_getElem hk]; exact List.getElem_mem hk)
      have hcast : ((ms.length - (g + 1) : Nat) : Int) + 1 = ((ms.length - g : Nat) : Int) := by omega
      have hnat : ms.length - (g + 1) + 1 = ms.length - g := by omega
      have HN := Lib.hid hnat
      have HCAST := Lib.hid hcast
      clear hnat hcast hc
      generalize hx : ms.getD (ms.length - (g + 1)) [] = x at *
      have HX := Lib.hid hx
      clear hx
      go_wp2_with fail
      cases hko : kwOf x with
      | none =>
        have hik := implKeyword_none (s := ⟨x.toArray⟩) (w := wr) hko
        have HIK := Lib.hid hik
        clear hik
        refine HIK.out.mono ?_
        rintro e w3 ⟨rfl, rfl⟩
        have hA2 := HA.out.skip hk (by rw [HX.out]; exact hko)
        rw [HN.out] at hA2
        have HA2 := Lib.hid hA2
        clear hA2
        go_wp2_with fail
        go_roundg g
        case measure => omega
        case rel => exact ⟨by omega, congrArg _ HCAST.out, HA2.out⟩
      | some k =>
        have hik := implKeyword_some (s := ⟨x.toArray⟩) (w := wr) hko
        have HIK := Lib.hid hik
        clear hik
        refine HIK.out.mono ?_
        rintro e w3 ⟨rfl, rfl⟩
        have hkr := kwOf_range hko
        have had := addKeyword_walk sb kb (50 + 2 * (ms.length - (g + 1))) _ _ ⟨x.toArray⟩ k wr HA.out.scn.c0 (HA.out.scn.ne_map HA.out.kws) (by show x.toArray.size ≤ _; simpa using hml) hkr HA.out.kws (by omega)
        have HAD := Lib.hid had
        have HKO := Lib.hid hko
        clear had hko
        go_wp2_with fail
        refine HAD.out.mono ?_
        rintro e w4 ⟨rfl, hw4, hg4⟩
        have hA2 := HA.out.add hkb hk (by rw [HX.out]; exact HKO.out) (by rw [HX.out]; exact hw4) hg4
        rw [HN.out] at hA2
        have HA2 := Lib.hid hA2
        clear hA2 hw4 hg4
        go_wp2_with fail
        go_roundg g
        case measure => omega
        case rel => exact ⟨by omega, congrArg _ HCAST.out, HA2.out⟩

end Go.Proofs.YtplljfbbipeakaaDoor
