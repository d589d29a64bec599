/- laws.FnTexts, walked. -/
import Derived.Test.YtplljfbbipeakaaDoorLw
import Derived.Deep.RegionWith
namespace Go.Proofs.YtplljfbbipeakaaDoor
open Go Go.RowKit Go.Maps Go.WideMaps Go.WideElems

set_option maxHeartbeats 8000000 in
set_option maxRecDepth 100000 in
theorem fnTexts_walk {pv gv mv : Value} {ps : List PV} {gs : List Int} {X : List (List UInt8)} {w : World} (hP : PiecesAt pv ps w) (hG : IntsAt gv gs w) (hM : StrsAt mv X w) (hB : Base w.heap.size kh0 kt0 w)
    (hz : sumZ ps ≤ 1048576) (hgl : gs.length ≤ 1048576) (hxl : X.length ≤ 1048576) (hxt : ∀ m ∈ X, m.length ≤ 1048576) :
    Calls Tryd.prog 8 #[pv, gv, mv] w fun e w' => e = .returned (.bool true) ∧ Below w.heap.size w w' := by
  have hpl := sumZ_ge ps
  have hpt : ∀ p ∈ ps, p.t.size ≤ 2147483647 := fun p hp => by have := sumZ_mem hp; omega
  have hf1 := zzFits1_walk hP (by omega) hpt
  have hgv : ∃ ga gc, gv = .slice ga gs.length gc := by obtain ⟨ga, gc, e, _⟩ := hG; exact ⟨ga, gc, e⟩
  obtain ⟨ga, gc, rfl⟩ := hgv
  have hgl2 : ¬ (2147483647 : Int) < (gs.length : Int) := by omega
  have HF1 := Lib.hid hf1
  have HP := Lib.hid hP
  have HG := Lib.hid hG
  have HM := Lib.hid hM
  have HB := Lib.hid hB
  have HPT := Lib.hid hpt
  have HXT := Lib.hid hxt
  clear hf1 hP hG hM hB hpt hxt
  go_enter Tryd.func8, Tryd.ntmps8
  go_wp2_with fail
  refine HF1.out.mono ?_
  rintro e w1 ⟨rfl, hb1⟩
  have hf3 := zzFits3_walk (HM.out.below hb1) (by omega) (fun m hm => by have := HXT.out m hm; omega)
  have HF3 := Lib.hid hf3
  have Hb1 := Lib.hid hb1
  clear hb1 hf3 HF1
  go_wp2_with fail
  refine HF3.out.mono ?_
  rintro e w1' ⟨rfl, rfl⟩
  have hfm := fitMore_walk (HM.out.below Hb1.out) (by omega)
  have HFM := Lib.hid hfm
  clear hfm HF3
  go_wp2_with fail
  refine HFM.out.mono ?_
  rintro e w2 ⟨mv2, rfl, hS2, hb2⟩
  have hb2' := Hb1.out.trans (hb2.mono Hb1.out.size)
  have Hb2 := Lib.hid hb2'
  have HS2 := Lib.hid hS2
  clear hb2 hb2' hS2 HFM
  have hbytes := layS_bytes gs (fitL X) ps 0
  have hly := lay_walk (ms := fitL X) (HP.out.below Hb2.out) (HG.out.below Hb2.out) HS2.out (by omega) (by omega) (by have := (fitL_len X).1; omega) HPT.out (by rw [layAcc_nil]; omega)
  rw [layAcc_nil] at hly
  have HLY := Lib.hid hly
  clear hly hbytes
  go_wp2_with fail
  refine HLY.out.mono ?_
  rintro e w3 ⟨wv, rfl, hown3, hb3⟩
  have hb3' := Hb2.out.trans (hb3.mono Hb2.out.size)
  have hbase3 := Base.mono (HB.out.below hb3') hb3'.size (Nat.le_refl _)
  have hS3 := HS2.out.below hb3
  have Hb3 := Lib.hid hb3'
  have HB3 := Lib.hid hbase3
  have HS3 := Lib.hid hS3
  have HO3 := Lib.hid hown3
  clear hb3 hb3' hbase3 hS3 HLY hown3
  by_cases hn : ps = []
  · subst hn
    have e0 : BA (segsR (layS gs (fitL X) 0 [])) = ⟨#[]⟩ := rfl
    have hwk := works_walk HB3.out kt0_ok (by decide)
    have HWK := Lib.hid hwk
    rw [e0]
    clear hwk e0
    go_wp2_with fail
    refine HWK.out.mono ?_
    rintro e w4 ⟨rfl, hb4⟩
    have Hb4 := Lib.hid (Hb3.out.trans (hb4.mono Hb3.out.size))
    clear hb4
    go_wp2
    go_ret
    exact ⟨rfl, Hb4.out⟩
  · have hGS := goodS_lay X gs hn hz
    have hsc := scanS_walk HB3.out HS3.out hGS
    have hne := src_ne hGS.ne
    have hlen := hGS.len
    have hvl := gotV_len hGS false
    have hvp := gotV_pos false (layS gs (fitL X) 0 ps)
    obtain ⟨hwl, hfit⟩ := want_fits X gs ps
    have ho3 := HO3.out
    rw [wt_cells] at ho3
    change w3.ownsRow w2.heap.size 40 6 wv (ps.length + 1) ((wantV gs (fitL X) ps).flatMap TV.cells) at ho3
    have hwl2 : (wantV gs (fitL X) ps).length = ps.length + 1 := by unfold wantV layEnd; rw [List.length_map, List.length_append, layAcc_len]; simp
    rw [← hwl2] at ho3
    obtain ⟨g3, c3, e3, _, hg32, hrow3⟩ := rowAt_own ho3 (by omega)
    rw [hwl] at e3
    subst e3
    have HR3 := Lib.hid hrow3
    have HFIT := Lib.hid hfit
    clear ho3 hwl2 hfit hrow3 HO3
    generalize wantV gs (fitL X) ps = T at *
    generalize layS gs (fitL X) 0 ps = S at *
    have hsd : (BA (segsR S)).data.toList = encL (segsR S) := by simp [BA]
    have hss : (BA (segsR S)).size = (encL (segsR S)).length := ba_size _
    rw [← hsd] at hne
    rw [← hss] at hlen
    unfold GotPost at hsc
    generalize BA (segsR S) = s at *
    generalize gotV false S = V at *
    have hne2 : (s.toList == []) = false := by rw [ByteArray.toList_eq]; simpa using hne
    have HSC := Lib.hid hsc
    clear hsc hGS hn hne hsd hss HP HG HM HPT HXT
    go_wp2_with fail
    refine HSC.out.mono ?_
    rintro e w4 ⟨v, rfl, hown, hb4⟩
    obtain ⟨g, c, rfl, hg1, hg2, hrow⟩ := rowAt_own hown hvp
    have hb4' := Hb3.out.trans (hb4.mono Hb3.out.size)
    have hbase4 := Base.mono (HB3.out.below hb4) hb4.size (Nat.le_refl _)
    have Hb4 := Lib.hid hb4'
    have HB4 := Lib.hid hbase4
    have HROW := Lib.hid hrow
    have hrow3 := HR3.out.below hg32 hb4
    have hg34 := Nat.lt_of_lt_of_le hg32 hb4.size
    have HR4 := Lib.hid hrow3
    clear hrow3 HR3
    clear hown hb4 hb4' hbase4 hrow HSC HB3 HS3 HS2 HB Hb3 Hb2 Hb1
    go_wp2
    go_loopg [57] V.length (fun gg i wr => ∃ k : Nat, k + gg = V.length ∧ i = .int .i64 (k : Int) ∧ Below w4.heap.size w4 wr)
    case atStart => exact ⟨0, by simp, rfl, Below.refl _ _⟩
    case round =>
      obtain ⟨k, hk0, rfl, hbw⟩ := hrel
      cases gk with
      | zero =>
        obtain rfl : k = V.length := by omega
        have hb5 := Hb4.out.trans (hbw.mono Hb4.out.size)
        have Hb5 := Lib.hid hb5
        clear hbw hb5
        go_wp2
        go_ret
        exact ⟨rfl, Hb5.out⟩
      | succ gg =>
        have hk : k < V.length := by omega
        have hk2 : (k + 1) + gg = V.length := by omega
        obtain ⟨m1, m2⟩ := HFIT.out k (by omega) hk
        obtain ⟨q0, q1, q2, q3, q4, q5⟩ := (HR4.out.below hg34 hbw) k (by omega)
        have hki : (k : Int) < (V.length : Int) := by omega
        have hbs := hbw.size
        have r1 : ∀ o : Obj, (wr.alloc o).cell? ⟨g, k * 6 + 1, none⟩ = some (.string V[k].lit) := fun o => ((HROW.out.below hg2 (hbw.alloc hbs o)) k hk).2.1
        have hgw : g < wr.heap.size := by omega
        generalize V[k] = v at *
        generalize T[k]'(by omega) = x at *
        obtain ⟨tk, lit, off, stop, row, col⟩ := v
        obtain ⟨xtk, xlit, xoff, xstop, xrow, xcol⟩ := x
        simp only at m1 m2 r1 q0 q1 q2 q3 q4 q5
        have hba : ∀ o : Obj, Below w4.heap.size w4 (wr.alloc o) := fun o => hbw.alloc hbs o
        have HBA := Lib.hid hba
        by_cases hlast : k + 1 = V.length
        · obtain ⟨e1, e2⟩ := m1 hlast
          subst e1 e2
          clear m1 m2 hlast hbw hba
          go_wp2_with fail
          go_quiet (fail)
          go_wp2
          go_roundg gg
          case measure => omega
          case rel => exact ⟨k + 1, hk2, by go_num, (HBA.out _).trans ⟨rfl, rfl, rfl, Nat.le_refl _, fun _ _ => rfl⟩⟩
        · obtain ⟨e1, e2, e3, e4, e5, e6⟩ := m2 (by omega)
          subst e1 e2 e3 e4
          have HNE := Lib.hid e5
          clear e5
          have hsg := fun W : World => isSign_walk xlit.data.toList W
          rw [← ba_list xlit] at hsg
          by_cases hs : isSignB xlit.data.toList = true
          · rw [hs] at hsg
            have HSG := Lib.hid hsg
            clear m1 m2 hlast hbw hba e6 hs hsg
            go_wp2_with fail
            refine gen_wp (fun W => Below w4.heap.size w4 W ∧ W.cell? ⟨wr.heap.size, 0, none⟩ = some (.int .i64 xtk) ∧ W.cell? ⟨wr.heap.size, 1, none⟩ = some (.string xlit) ∧ W.cell? ⟨g, k * 6 + 1, none⟩ = some (.string lit) ∧ W.heap.size = wr.heap.size + 1) ⟨HBA.out _, cell_row (heap_alloc_new wr _) 0 _ rfl, cell_row (heap_alloc_new wr _) 1 _ rfl, r1 _, by rw [World.size_alloc]⟩ ?_
            rintro W ⟨hbW, d0, d1, d2, hsW⟩
            have HBW := Lib.hid hbW
            have ht3 : (xtk == 1) = false := by simpa using HNE.out
            have ht4 : decide (xtk = 1) = false := by simpa using HNE.out
            have ht5 : (xtk != 1) = true := by simpa using HNE.out
            have ht6 : (!xtk == 1) = true := by simpa using HNE.out
            have l1 : wr.heap.size < W.heap.size := by omega
            have l2 : g < W.heap.size := by omega
            clear q0 q1 q2 q3 q4 q5 r1 hbW
            refine wp_region_held_drew (S := fun w' => w'.cell? ⟨wr.heap.size, 0, none⟩ = some (.int .i64 xtk) ∧ w'.cell? ⟨wr.heap.size, 1, none⟩ = some (.string xlit) ∧ w'.cell? ⟨g, k * 6 + 1, none⟩ = some (.string lit)) (by kernel_rfl) ⟨d0, d1, d2⟩ (fun hHeld => ?_)
            refine wpAnyH_take (i := 0) (oi := ?oi0) (v := ?v0) ?hi0 (by kernel_rfl) (by kernel_rfl) (by kernel_rfl) ?hQ0 (Or.inl ⟨?hw0, ?hy0⟩) (by assumption) ?rest0
            case hi0 => (simp only [List.getElem?_toArray, List.getElem?_cons_zero]; rfl)
            case hQ0 => exact fun _ _ _ h => h
            case hw0 => rfl
            case hy0 =>
              intro w' hSw
              (try dsimp only at hSw)
              go_simp
              try with_reducible rfl
            try simp only [Act.put, List.setIfInBounds_toArray, List.set_cons_zero, List.set_cons_succ]
            refine wpAnyH_take (i := 1) (oi := ?oi1) (v := ?v1) ?hi1 (by kernel_rfl) (by kernel_rfl) (by kernel_rfl) ?hQ1 (Or.inl ⟨?hw1, ?hy1⟩) (by assumption) ?rest1
            case hi1 => (simp only [List.getElem?_toArray, List.getElem?_cons_succ, List.getElem?_cons_zero]; rfl)
            case hQ1 => exact fun _ _ _ h => h
            case hw1 => rfl
            case hy1 =>
              intro w' hSw
              (try dsimp only at hSw)
              go_simp
              try with_reducible rfl
            try simp only [Act.put, List.setIfInBounds_toArray, List.set_cons_zero, List.set_cons_succ]
            refine wpAnyH_take (i := 2) (oi := ?oi2) (v := ?v2) ?hi2 (by kernel_rfl) (by kernel_rfl) (by kernel_rfl) ?hQ2 (Or.inl ⟨?hw2, ?hy2⟩) (by assumption) ?rest2
            case hi2 => (simp only [List.getElem?_toArray, List.getElem?_cons_succ, List.getElem?_cons_zero]; rfl)
            case hQ2 => exact fun _ _ _ h => h
            case hw2 => rfl
            case hy2 =>
              intro w' hSw
              (try dsimp only at hSw)
              go_simp
              try with_reducible rfl
            try simp only [Act.put, List.setIfInBounds_toArray, List.set_cons_zero, List.set_cons_succ]
            refine wpAnyH_take (i := 3) (oi := ?oi3) (v := ?v3) ?hi3 (by kernel_rfl) (by kernel_rfl) (by kernel_rfl) ?hQ3 (Or.inl ⟨?hw3, ?hy3⟩) (by assumption) ?rest3
            case hi3 => (simp only [List.getElem?_toArray, List.getElem?_cons_succ, List.getElem?_cons_zero]; rfl)
            case hQ3 => exact fun _ _ _ h => h
            case hw3 => rfl
            case hy3 =>
              intro w' hSw
              (try dsimp only at hSw)
              go_simp
              try with_reducible rfl
            try simp only [Act.put, List.setIfInBounds_toArray, List.set_cons_zero, List.set_cons_succ]
            refine wpAnyH_take (i := 4) (oi := ?oi4) (v := ?v4) ?hi4 (by kernel_rfl) (by kernel_rfl) (by kernel_rfl) ?hQ4 (Or.inl ⟨?hw4, ?hy4⟩) (by assumption) ?rest4
            case hi4 => (simp only [List.getElem?_toArray, List.getElem?_cons_succ, List.getElem?_cons_zero]; rfl)
            case hQ4 => exact fun _ _ _ h => h
            case hw4 => rfl
            case hy4 =>
              intro w' hSw
              (try dsimp only at hSw)
              go_simp
              try with_reducible rfl
            try simp only [Act.put, List.setIfInBounds_toArray, List.set_cons_zero, List.set_cons_succ]
            refine wpAnyH_take (i := 5) (oi := ?oi5) (v := ?v5) ?hi5 (by kernel_rfl) (by kernel_rfl) (by kernel_rfl) ?hQ5 (Or.inl ⟨?hw5, ?hy5⟩) (by assumption) ?rest5
            case hi5 => (simp only [List.getElem?_toArray, List.getElem?_cons_succ, List.getElem?_cons_zero]; rfl)
            case hQ5 => exact fun _ _ _ h => h
            case hw5 => rfl
            case hy5 =>
              intro w' hSw
              (try dsimp only at hSw)
              go_simp
              try with_reducible rfl
            try simp only [Act.put, List.setIfInBounds_toArray, List.set_cons_zero, List.set_cons_succ]
            refine wpAnyH_ready (rs := [6]) (by kernel_rfl) (by simp) ?_
            refine AllReadyH.cons (o := ?oi6) ?hi6 (fun K hK => ?rest6) AllReadyH.nil
            case hi6 => (simp only [List.getElem?_toArray, List.getElem?_cons_succ, List.getElem?_cons_zero]; rfl)
            go_simp
            go_at_call 23
            refine (HSG.out _).mono ?_
            rintro e w6 ⟨rfl, hb6⟩
            have z0 : w6.cell? ⟨wr.heap.size, 0, none⟩ = some (.int .i64 xtk) := (hb6.cell (p := ⟨wr.heap.size, 0, none⟩) l1).trans d0
            have z1 : w6.cell? ⟨wr.heap.size, 1, none⟩ = some (.string xlit) := (hb6.cell (p := ⟨wr.heap.size, 1, none⟩) l1).trans d1
            have z2 : w6.cell? ⟨g, k * 6 + 1, none⟩ = some (.string lit) := (hb6.cell (p := ⟨g, k * 6 + 1, none⟩) l2).trans d2
            clear hHeld
            refine hK.out _ _ ⟨z0, z1, z2⟩ (fun hHeld => ?_)
            clear hK K
            try simp only [Act.put, List.setIfInBounds_toArray, List.set_cons_zero, List.set_cons_succ]
            refine wpAnyH_take (i := 7) (oi := ?oi7) (v := ?v7) ?hi7 (by kernel_rfl) (by kernel_rfl) (by kernel_rfl) ?hQ7 (Or.inl ⟨?hw7, ?hy7⟩) (by assumption) ?rest7
            case hi7 => (simp only [List.getElem?_toArray, List.getElem?_cons_succ, List.getElem?_cons_zero]; rfl)
            case hQ7 => exact fun _ _ _ h => h
            case hw7 => rfl
            case hy7 =>
              intro w' hSw
              (try dsimp only at hSw)
              go_simp
              try with_reducible rfl
            try simp only [Act.put, List.setIfInBounds_toArray, List.set_cons_zero, List.set_cons_succ]
            refine wpAnyH_take (i := 8) (oi := ?oi8) (v := ?v8) ?hi8 (by kernel_rfl) (by kernel_rfl) (by kernel_rfl) ?hQ8 (Or.inl ⟨?hw8, ?hy8⟩) (by assumption) ?rest8
            case hi8 => (simp only [List.getElem?_toArray, List.getElem?_cons_succ, List.getElem?_cons_zero]; rfl)
            case hQ8 => exact fun _ _ _ h => h
            case hw8 => rfl
            case hy8 =>
              intro w' hSw
              (try dsimp only at hSw)
              go_simp
              try with_reducible rfl
            try simp only [Act.put, List.setIfInBounds_toArray, List.set_cons_zero, List.set_cons_succ]
            refine wpAnyH_take (i := 9) (oi := ?oi9) (v := ?v9) ?hi9 (by kernel_rfl) (by kernel_rfl) (by kernel_rfl) ?hQ9 (Or.inl ⟨?hw9, ?hy9⟩) (by assumption) ?rest9
            case hi9 => (simp only [List.getElem?_toArray, List.getElem?_cons_succ, List.getElem?_cons_zero]; rfl)
            case hQ9 => exact fun _ _ _ h => h
            case hw9 => rfl
            case hy9 =>
              intro w' hSw
              (try dsimp only at hSw)
              go_simp
              try with_reducible rfl
            try simp only [Act.put, List.setIfInBounds_toArray, List.set_cons_zero, List.set_cons_succ]
            refine wpAnyH_take (i := 10) (oi := ?oi10) (v := undef) ?hi10 (by kernel_rfl) (by kernel_rfl) (by kernel_rfl) ?hQ10 (Or.inr ⟨?hw10, rfl⟩) (by assumption) ?rest10
            case hi10 => (simp only [List.getElem?_toArray, List.getElem?_cons_succ, List.getElem?_cons_zero]; rfl)
            case hQ10 => exact fun _ _ _ h => h
            case hw10 => rfl
            try simp only [Act.put, List.setIfInBounds_toArray, List.set_cons_zero, List.set_cons_succ]
            refine wpAnyH_take (i := 11) (oi := ?oi11) (v := undef) ?hi11 (by kernel_rfl) (by kernel_rfl) (by kernel_rfl) ?hQ11 (Or.inr ⟨?hw11, rfl⟩) (by assumption) ?rest11
            case hi11 => (simp only [List.getElem?_toArray, List.getElem?_cons_succ, List.getElem?_cons_zero]; rfl)
            case hQ11 => exact fun _ _ _ h => h
            case hw11 => rfl
            try simp only [Act.put, List.setIfInBounds_toArray, List.set_cons_zero, List.set_cons_succ]
            refine wpAnyH_take (i := 12) (oi := ?oi12) (v := undef) ?hi12 (by kernel_rfl) (by kernel_rfl) (by kernel_rfl) ?hQ12 (Or.inr ⟨?hw12, rfl⟩) (by assumption) ?rest12
            case hi12 => (simp only [List.getElem?_toArray, List.getElem?_cons_succ, List.getElem?_cons_zero]; rfl)
            case hQ12 => exact fun _ _ _ h => h
            case hw12 => rfl
            try simp only [Act.put, List.setIfInBounds_toArray, List.set_cons_zero, List.set_cons_succ]
            refine wpAnyH_take (i := 13) (oi := ?oi13) (v := undef) ?hi13 (by kernel_rfl) (by kernel_rfl) (by kernel_rfl) ?hQ13 (Or.inr ⟨?hw13, rfl⟩) (by assumption) ?rest13
            case hi13 => (simp only [List.getElem?_toArray, List.getElem?_cons_succ, List.getElem?_cons_zero]; rfl)
            case hQ13 => exact fun _ _ _ h => h
            case hw13 => rfl
            try simp only [Act.put, List.setIfInBounds_toArray, List.set_cons_zero, List.set_cons_succ]
            refine wpAnyH_take (i := 14) (oi := ?oi14) (v := undef) ?hi14 (by kernel_rfl) (by kernel_rfl) (by kernel_rfl) ?hQ14 (Or.inr ⟨?hw14, rfl⟩) (by assumption) ?rest14
            case hi14 => (simp only [List.getElem?_toArray, List.getElem?_cons_succ, List.getElem?_cons_zero]; rfl)
            case hQ14 => exact fun _ _ _ h => h
            case hw14 => rfl
            try simp only [Act.put, List.setIfInBounds_toArray, List.set_cons_zero, List.set_cons_succ]
            refine wpAnyH_take (i := 15) (oi := ?oi15) (v := undef) ?hi15 (by kernel_rfl) (by kernel_rfl) (by kernel_rfl) ?hQ15 (Or.inr ⟨?hw15, rfl⟩) (by assumption) ?rest15
            case hi15 => (simp only [List.getElem?_toArray, List.getElem?_cons_succ, List.getElem?_cons_zero]; rfl)
            case hQ15 => exact fun _ _ _ h => h
            case hw15 => rfl
            try simp only [Act.put, List.setIfInBounds_toArray, List.set_cons_zero, List.set_cons_succ]
            refine wpAnyH_take (i := 16) (oi := ?oi16) (v := undef) ?hi16 (by kernel_rfl) (by kernel_rfl) (by kernel_rfl) ?hQ16 (Or.inr ⟨?hw16, rfl⟩) (by assumption) ?rest16
            case hi16 => (simp only [List.getElem?_toArray, List.getElem?_cons_succ, List.getElem?_cons_zero]; rfl)
            case hQ16 => exact fun _ _ _ h => h
            case hw16 => rfl
            try simp only [Act.put, List.setIfInBounds_toArray, List.set_cons_zero, List.set_cons_succ]
            refine wpAnyH_take (i := 17) (oi := ?oi17) (v := undef) ?hi17 (by kernel_rfl) (by kernel_rfl) (by kernel_rfl) ?hQ17 (Or.inr ⟨?hw17, rfl⟩) (by assumption) ?rest17
            case hi17 => (simp only [List.getElem?_toArray, List.getElem?_cons_succ, List.getElem?_cons_zero]; rfl)
            case hQ17 => exact fun _ _ _ h => h
            case hw17 => rfl
            try simp only [Act.put, List.setIfInBounds_toArray, List.set_cons_zero, List.set_cons_succ]
            refine wpAnyH_take (i := 18) (oi := ?oi18) (v := ?v18) ?hi18 (by kernel_rfl) (by kernel_rfl) (by kernel_rfl) ?hQ18 (Or.inl ⟨?hw18, ?hy18⟩) (by assumption) ?rest18
            case hi18 => (simp only [List.getElem?_toArray, List.getElem?_cons_succ, List.getElem?_cons_zero]; rfl)
            case hQ18 => exact fun _ _ _ h => h
            case hw18 => rfl
            case hy18 =>
              intro w' hSw
              (try dsimp only at hSw)
              go_simp
              try with_reducible rfl
            try simp only [Act.put, List.setIfInBounds_toArray, List.set_cons_zero, List.set_cons_succ]
            refine wpAnyH_done (by kernel_rfl) ?_ _
            have hb6 := ‹Below _ W.drew _›
            have hb7 := HBW.out.trans ((show Below W.heap.size W W.drew from ⟨rfl, rfl, rfl, Nat.le_refl _, fun _ _ => rfl⟩).trans hb6 |>.mono HBW.out.size)
            have HB7 := Lib.hid hb7
            clear hb6 hb7
            go_wp2
            go_roundg gg
            case measure => omega
            case rel => exact ⟨k + 1, hk2, by go_num, HB7.out⟩
          · have hs0 : isSignB xlit.data.toList = false := by simpa using hs
            have hlit : lit = xlit := e6.resolve_right hs
            subst hlit
            rw [hs0] at hsg
            have HSG := Lib.hid hsg
            clear m1 m2 hlast hbw hba e6 hs hs0 hsg
            go_wp2_with fail
            refine gen_wp (fun W => Below w4.heap.size w4 W ∧ W.cell? ⟨wr.heap.size, 0, none⟩ = some (.int .i64 xtk) ∧ W.cell? ⟨wr.heap.size, 1, none⟩ = some (.string lit) ∧ W.cell? ⟨g, k * 6 + 1, none⟩ = some (.string lit) ∧ W.heap.size = wr.heap.size + 1) ⟨HBA.out _, cell_row (heap_alloc_new wr _) 0 _ rfl, cell_row (heap_alloc_new wr _) 1 _ rfl, r1 _, by rw [World.size_alloc]⟩ ?_
            rintro W ⟨hbW, d0, d1, d2, hsW⟩
            have HBW := Lib.hid hbW
            have ht3 : (xtk == 1) = false := by simpa using HNE.out
            have ht4 : decide (xtk = 1) = false := by simpa using HNE.out
            have ht5 : (xtk != 1) = true := by simpa using HNE.out
            have ht6 : (!xtk == 1) = true := by simpa using HNE.out
            have l1 : wr.heap.size < W.heap.size := by omega
            have l2 : g < W.heap.size := by omega
            clear q0 q1 q2 q3 q4 q5 r1 hbW
            go_region_held3 (fun w' => w'.cell? ⟨wr.heap.size, 0, none⟩ = some (.int .i64 xtk) ∧ w'.cell? ⟨wr.heap.size, 1, none⟩ = some (.string lit) ∧ w'.cell? ⟨g, k * 6 + 1, none⟩ = some (.string lit))
              (first | go_keep | exact ⟨d0, d1, d2⟩ | exact ⟨z0, z1, z2⟩)
              ((go_at_call 23; refine (HSG.out _).mono ?_; rintro e w6 ⟨rfl, hb6⟩; have z0 : w6.cell? ⟨wr.heap.size, 0, none⟩ = some (.int .i64 xtk) := (hb6.cell (p := ⟨wr.heap.size, 0, none⟩) l1).trans d0; have z1 : w6.cell? ⟨wr.heap.size, 1, none⟩ = some (.string lit) := (hb6.cell (p := ⟨wr.heap.size, 1, none⟩) l1).trans d1; have z2 : w6.cell? ⟨g, k * 6 + 1, none⟩ = some (.string lit) := (hb6.cell (p := ⟨g, k * 6 + 1, none⟩) l2).trans d2))
            have hb6 := ‹Below _ W.drew _›
            have hb7 := HBW.out.trans ((show Below W.heap.size W W.drew from ⟨rfl, rfl, rfl, Nat.le_refl _, fun _ _ => rfl⟩).trans hb6 |>.mono HBW.out.size)
            have HB7 := Lib.hid hb7
            clear hb6 hb7
            go_wp2
            go_roundg gg
            case measure => omega
            case rel => exact ⟨k + 1, hk2, by go_num, HB7.out⟩

end Go.Proofs.YtplljfbbipeakaaDoor
