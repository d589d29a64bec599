/- Scanner.Scan, walked: ws, ident. (printed by wip/gen_scan.py) -/
import Derived.Test.YtplljfbbipeakaaDoorScanA
namespace Go.Proofs.YtplljfbbipeakaaDoor
open Go Go.RowKit
set_option maxHeartbeats 4000000 in
set_option maxRecDepth 100000 in
theorem scan_W {B sb kb bb : Nat} {bs : ByteArray} {s s' : SS} {tk : Int} {lit : ByteArray} {kh : List UInt8 → Bool} {kt : List UInt8 → Int} {w : World} (h : Scn B sb kb bb bs s w) (hKw : Kws kb kh kt w) (hT : TokWs bs s s' tk lit ∨ TokId kh kt bs s s' tk lit) :
    Calls Tryd.prog 47 #[.pointer (some ⟨sb, 0, none⟩), .slice none 0 0] w (ScanPost B sb kb bb bs s s' tk lit w) := by
  obtain ⟨cap, ev, tg, tc, tn, r⟩ := h.mem.open
  have hsz := h.size
  have hwo := h.ok.wo
  have hof := h.ok.off
  have c3 := r.c3; have c4 := r.c4; have c5 := r.c5; have c6 := r.c6; have c7 := r.c7; have c8 := r.c8
  have lsb := lt_of_block r.blk
  have R := Lib.hid r
  have H := Lib.hid h
  have HKw := Lib.hid hKw
  have HT := Lib.hid hT
  have hwr : IntKind.i64.wrap ((s.off : Int) - (s.width : Int)) = (s.off : Int) - (s.width : Int) := IntWalk.i64_in _ ⟨by omega, by omega⟩
  have HWR := Lib.hid hwr
  clear r h hKw hT hwr
  go_enter Tryd.func47, Tryd.ntmps47
  go_wp2
  go_loop [20] (fun i => i = .int .i64 0) (fun _ => 0)
  case atStart => rfl
  case round =>
    subst hrel
    go_wp2
    refine gen_wp (fun W => Rows1 B sb kb bb bs s cap ev tg tc tn W ∧ Kept B w W ∧ W.heap.size = w.heap.size + 2 ∧ W.heap[w.heap.size]? = some (.cells #[.slice none 0 0, .int .i64 0, .int .i64 0, .int .i64 0, .int .i64 0] 77 (0, 0)) ∧ W.heap[w.heap.size + 1]? = some (.cells #[.bool false, .bool false] 107 (0, 0))) ⟨?_, ?_, ?_, ?_, ?_⟩ ?_
    · exact (R.out.alloc _).alloc _
    · exact ((Kept.refl B w).alloc _).alloc _
    · simp
    · exact row_alloc (heap_alloc_new w _)
    · have := heap_alloc_new (w.alloc (.cells #[.slice none 0 0, .int .i64 0, .int .i64 0, .int .i64 0, .int .i64 0] 77)) (.cells #[.bool false, .bool false] 107)
      rwa [World.size_alloc] at this
    clear c3 c4 c5 c6 c7 c8
    rintro W ⟨r, hk, hWs, hb0, hb1⟩
    have c3 := r.c3; have c4 := r.c4; have c5 := r.c5; have c6 := r.c6; have c7 := r.c7
    have lW := lt_of_block r.blk
    have nw3 := World.new_ne W ⟨sb, 3, none⟩ c3
    have HR2 := Lib.hid r
    have HK2 := Lib.hid hk
    have HB0 := Lib.hid hb0
    have HB1 := Lib.hid hb1
    have HWs := Lib.hid hWs
    clear r hk hWs hb0 hb1
    go_region_held3 (fun w' => w'.cell? ⟨sb, 3, none⟩ = some (.slice (some ⟨tg, 0, none⟩) tn tc) ∧ w'.cell? ⟨sb, 4, none⟩ = some (.int .i64 s.off) ∧ w'.cell? ⟨sb, 5, none⟩ = some (.int .i64 s.row) ∧ w'.cell? ⟨sb, 6, none⟩ = some (.int .i64 s.col) ∧ w'.cell? ⟨sb, 7, none⟩ = some (.int .i64 s.width)) (go_keep) (fail)
    refine gen_then (fun W2 => Rows1 B sb kb bb bs s cap ev tg tc tn W2 ∧ Kept B w W2 ∧ W2.heap.size = w.heap.size + 3 ∧ W2.heap[w.heap.size]? = some (.cells #[.slice none 0 0, .int .i64 0, .int .i64 0, .int .i64 0, .int .i64 0] 77 (0, 0)) ∧ W2.heap[w.heap.size + 1]? = some (.cells #[.bool false, .bool false] 107 (0, 0)) ∧
      W2.heap[W.heap.size]? = some (.cells #[.slice (some ⟨tg, 0, none⟩) tn tc, .int .i64 ((s.off : Int) - (s.width : Int)), .int .i64 0, .int .i64 s.row, .int .i64 s.col] 77 (0, 0))) ⟨?_, ?_, ?_, ?_, ?_, ?_⟩ ?_
    · exact (HR2.out.alloc _).drew
    · exact (HK2.out.alloc _).drew
    · have := HWs.out; simp; omega
    · exact row_alloc HB0.out
    · exact row_alloc HB1.out
    · rw [HWR.out]; exact heap_alloc_new W _
    clear c3 c4 c5 c6 c7
    rintro W2 ⟨r, hk, hWs, hb0, hb1, hb2⟩
    rw [HWs.out] at hb2 ⊢
    have p0 := cell_row hb1 0 _ rfl
    have HR3 := Lib.hid r
    have HK3 := Lib.hid hk
    have HC0 := Lib.hid hb0
    have HC1 := Lib.hid hb1
    have HC2 := Lib.hid hb2
    have HWs2 := Lib.hid hWs
    clear r hk hWs hb0 hb1 hb2
    go_upto_if 53 with (fail)
    go_cut [12, 13] (fun t l wc => ScanMid B sb kb bb bs s' tk lit W2 t l wc)
    case first =>
      have HS := Lib.hid (⟨H.out.mem.of_step HK3.out HR3.out, H.out.ok, H.out.size⟩ : Scn B sb kb bb bs s W2)
      have c8 := HR3.out.c8
      have c0 := HR3.out.c0
      have lo := H.out.ok.lo
      have hi := H.out.ok.hi
      have HKW2 := Lib.hid (HKw.out.kept HK3.out)
      have hT := HT.out
      clear HT
      rcases hT with ⟨hc, rfl, rfl, rfl⟩ | ⟨hc, h1, hpos, rfl, rfl, n, hrun, hend, hasc, rfl⟩
      · as_aux_lemma =>
        have h4 : s.curr = 32 ∨ s.curr = 9 ∨ s.curr = 10 ∨ s.curr = 13 := by simpa [isWsB] using hc
        have v1 : isWsB 32 = true := by decide
        have v2 : isWsB 9 = true := by decide
        have v3 : isWsB 10 = true := by decide
        have v4 : isWsB 13 = true := by decide
        clear hc
        rcases h4 with e4 | e4 | e4 | e4
        all_goals as_aux_lemma =>
          rw [e4] at c8
          have E4 := Lib.hid e4
          rw [e4]
          clear e4
          go_wp2_with (first | (go_at_call 64; refine (isWs_walk _ _ _ c8).mono ?_; rintro e w' ⟨rfl, rfl⟩) | (go_at_call 50; refine (next_any HS.out).mono ?_; rintro e w1 ⟨rfl, hs1, hk1⟩))
          go_meet
          case rel => exact ⟨rfl, by rw [E4.out]; rfl, hs1, hk1⟩
      · as_aux_lemma =>
        have d1 : isWsB s.curr = false := by simp [isLetB] at hc; simp [isWsB]; omega
        have HSC := Lib.hid (scanIdent HS.out n h1 hrun hend hasc hpos)
        have HHS2 := Lib.hid hpos
        clear hrun hend hasc hpos
        generalize iterS bs n s = s2 at *
        have hlen : (bs.extract (s.off - 1) (s2.off - 1)).size ≤ maxLen := by rw [ByteArray.size_extract]; unfold maxLen; omega
        go_wp2_with (first | (go_at_call 64; refine (isWs_walk _ _ _ c8).mono ?_; rintro e w' ⟨rfl, rfl⟩) | (go_at_call 65; refine (isLetter_any _ _ lo hi).mono ?_; rintro e w' ⟨rfl, rfl⟩) | (go_at_call 67; refine (isDecimal_any _ _).mono ?_; rintro e w' ⟨rfl, rfl⟩) | (go_at_call 66; fail))
        refine HSC.out.mono ?_
        rintro e w1 ⟨rfl, hs1, hk1⟩
        obtain ⟨cap4, ev4, tg4, tc4, tn4, r4⟩ := hs1.mem.open
        have c0' := r4.c0
        have HKW3 := Lib.hid (HKW2.out.kept hk1)
        have HS1 := Lib.hid hs1
        have HK1 := Lib.hid hk1
        clear r4 hs1 hk1
        generalize bs.extract (s.off - 1) (s2.off - 1) = lt at *
        go_wp2_with (go_at_call 41; refine (keyword_walk _ _ _ _ _ c0' HKW3.out _ hlen).mono ?_; rintro e w' ⟨rfl, rfl⟩)
        go_meet
        case rel => exact ⟨rfl, rfl, HS1.out, HK1.out⟩
    case rest =>
      obtain ⟨rfl, rfl, hsc, hkc⟩ := hcut
      obtain ⟨cap2, ev2, tg2, tc2, tn2, r2⟩ := hsc.mem.open
      obtain ⟨exs2, he2⟩ := r2.errs
      obtain ⟨ea, ec, rfl⟩ := errs_form he2
      clear he2
      have q0 := hkc.row77 HC0.out
      have q2 := hkc.row77 HC2.out
      have HQ0 := Lib.hid q0
      have HQ2 := Lib.hid q2
      have HSC := Lib.hid hsc
      have HKC := Lib.hid hkc
      clear p0
      have c2 := r2.c2; have c4 := r2.c4; have c7 := r2.c7; have f2 := r2.f 2
      have a0 := cell_row q0 0 _ rfl; have a1 := cell_row q0 1 _ rfl; have a2 := cell_row q0 2 _ rfl; have a3 := cell_row q0 3 _ rfl; have a4 := cell_row q0 4 _ rfl
      have b0 := cell_row q2 0 _ rfl; have b1 := cell_row q2 1 _ rfl; have b2 := cell_row q2 2 _ rfl; have b3 := cell_row q2 3 _ rfl; have b4 := cell_row q2 4 _ rfl
      have g0 := free_row q0; have g2 := free_row q2
      have hne : w.heap.size ≠ sb := fun e => by rw [← e] at lsb; omega
      have hne2 : w.heap.size + 2 ≠ sb := fun e => by rw [← e] at lsb; omega
      have hw2 : IntKind.i64.wrap ((s'.off : Int) - (s'.width : Int)) = (s'.off : Int) - (s'.width : Int) := by
        have := hsc.ok.off; have := hsc.ok.wo
        exact IntWalk.i64_in _ ⟨by omega, by omega⟩
      have h0w := hsc.ok.wo
      clear q0 q2 hsc hkc r2
      go_wp2_with fail
      go_region_held3 (fun w' => w'.cell? ⟨sb, 4, none⟩ = some (.int .i64 s'.off) ∧ w'.cell? ⟨sb, 7, none⟩ = some (.int .i64 s'.width)) (go_keep) (fail)
      have HW2 := Lib.hid hw2
      clear hw2
      go_wp2
      have hke : Kept B w wc := HK3.out.trans HKC.out
      have hsz1 : w.heap.size + 2 < wc.heap.size := lt_of_block HQ2.out
      have M1 : Mem B sb kb bb bs s' (wc.setCell ⟨w.heap.size + 2, 2, none⟩ (.int .i64 ((s'.off : Int) - (s'.width : Int)))) := HSC.out.mem.set_other (by have := H.out.mem.bw; omega) HQ2.out _
      obtain ⟨cap3, ev3, tg3, tc3, tn3, r3⟩ := M1.open
      have k1 : Kept B w (wc.setCell ⟨w.heap.size + 2, 2, none⟩ (.int .i64 ((s'.off : Int) - (s'.width : Int)))) := hke.setNew (p := ⟨w.heap.size + 2, 2, none⟩) (Nat.le_add_right _ _) _
      have r4 := r3.set_errs (World.ownsRow_nil _ B 130 6)
      have k2 := r3.keptSet H.out.mem.bsb k1 2 (.slice none 0 0)
      have M2 := H.out.mem.of_step k2 r4
      have Q0 := row_set_other (i := 2) (Value.slice none 0 0) hne (row_set_other (b := w.heap.size + 2) (i := 2) (.int .i64 ((s'.off : Int) - (s'.width : Int))) (by omega) HQ0.out)
      have Q2 := row_set_other (i := 2) (Value.slice none 0 0) hne2 (row_set (i := 2) (Value.int .i64 ((s'.off : Int) - (s'.width : Int))) HQ2.out)
      refine gen_wp (fun X => Scn B sb kb bb bs s'.clr X ∧ Kept B w X ∧ X.heap[w.heap.size]? = some (.cells #[.slice none 0 0, .int .i64 0, .int .i64 0, .int .i64 0, .int .i64 0] 77 (0, 0)) ∧
        X.heap[w.heap.size + 2]? = some (.cells #[.slice (some ⟨tg, 0, none⟩) tn tc, .int .i64 ((s.off : Int) - (s.width : Int)), .int .i64 ((s'.off : Int) - (s'.width : Int)), .int .i64 s.row, .int .i64 s.col] 77 (0, 0))) ⟨?_, ?_, ?_, ?_⟩ ?_
      · exact ⟨M2.drewN 1, HSC.out.ok.clr, HSC.out.size⟩
      · exact k2.drew
      · exact Q0
      · exact Q2
      clear M1 r3 k1 r4 k2 M2 Q0 Q2 a0 a1 a2 a3 a4 b0 b1 b2 b3 b4 g0 g2 c2 c4 c7 f2 hke
      rintro X ⟨hsx, hkx, q0, q2⟩
      have HSX := Lib.hid hsx
      have HKX := Lib.hid hkx
      have HX0 := Lib.hid q0
      have a0 := cell_row q0 0 _ rfl; have a1 := cell_row q0 1 _ rfl; have a2 := cell_row q0 2 _ rfl; have a3 := cell_row q0 3 _ rfl; have a4 := cell_row q0 4 _ rfl
      have b0 := cell_row q2 0 _ rfl; have b1 := cell_row q2 1 _ rfl; have b2 := cell_row q2 2 _ rfl; have b3 := cell_row q2 3 _ rfl; have b4 := cell_row q2 4 _ rfl
      have g0 := free_row q0
      clear q0 q2 hsx hkx
      go_region
      go_wp2
      have hl0 : w.heap.size < X.heap.size := lt_of_block HX0.out
      refine gen_post (fun Y => Scn B sb kb bb bs s'.clr Y ∧ Kept B w Y ∧ Y.heap[w.heap.size]? = some (.cells #[.slice (some ⟨tg, 0, none⟩) tn tc, .int .i64 ((s.off : Int) - (s.width : Int)), .int .i64 ((s'.off : Int) - (s'.width : Int)), .int .i64 s.row, .int .i64 s.col] 77 (0, 0))) ⟨?_, ?_, ?_⟩ ?_
      · have hB : B ≤ w.heap.size := H.out.mem.bw
        have m1 := HSX.out.mem.set_other hB HX0.out (i := 0) (.slice (some ⟨tg, 0, none⟩) tn tc)
        have x1 := row_set (i := 0) (Value.slice (some ⟨tg, 0, none⟩) tn tc) HX0.out
        have m2 := m1.set_other hB x1 (i := 1) (.int .i64 ((s.off : Int) - (s.width : Int)))
        have x2 := row_set (i := 1) (Value.int .i64 ((s.off : Int) - (s.width : Int))) x1
        have m3 := m2.set_other hB x2 (i := 2) (.int .i64 ((s'.off : Int) - (s'.width : Int)))
        have x3 := row_set (i := 2) (Value.int .i64 ((s'.off : Int) - (s'.width : Int))) x2
        have m4 := m3.set_other hB x3 (i := 3) (.int .i64 s.row)
        have x4 := row_set (i := 3) (Value.int .i64 s.row) x3
        have m5 := m4.set_other hB x4 (i := 4) (.int .i64 s.col)
        exact ⟨m5.drewN 1, HSX.out.ok, HSX.out.size⟩
      · exact (((((HKX.out.setNew (p := ⟨w.heap.size, 0, none⟩) (Nat.le_refl _) _).setNew (p := ⟨w.heap.size, 1, none⟩) (Nat.le_refl _) _).setNew (p := ⟨w.heap.size, 2, none⟩) (Nat.le_refl _) _).setNew (p := ⟨w.heap.size, 3, none⟩) (Nat.le_refl _) _).setNew (p := ⟨w.heap.size, 4, none⟩) (Nat.le_refl _) _).drew
      · exact row_set (i := 4) _ (row_set (i := 3) _ (row_set (i := 2) _ (row_set (i := 1) _ (row_set (i := 0) _ HX0.out))))
      clear a0 a1 a2 a3 a4 b0 b1 b2 b3 b4 g0
      rintro Y ⟨hsy, hky, y0⟩
      have a0 := cell_row y0 0 _ rfl; have a1 := cell_row y0 1 _ rfl; have a2 := cell_row y0 2 _ rfl; have a3 := cell_row y0 3 _ rfl; have a4 := cell_row y0 4 _ rfl
      exact bodyPost_ret (v := .tuple #[.int .u8 tk, .agg #[.slice (some ⟨tg, 0, none⟩) tn tc, .int .i64 ((s.off : Int) - (s.width : Int)), .int .i64 ((s'.off : Int) - (s'.width : Int)), .int .i64 s.row, .int .i64 s.col], .string lit, .slice ea s'.errs ec])
        (by simp [results, Tryd.results47, go_sem, a0, a1, a2, a3, a4]) rfl ⟨_, _, _, _, _, rfl, hsy, hky⟩

end Go.Proofs.YtplljfbbipeakaaDoor
