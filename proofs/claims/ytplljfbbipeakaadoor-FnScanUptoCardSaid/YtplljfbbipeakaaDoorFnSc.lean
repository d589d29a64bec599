/- laws.FnScan, walked. -/
import Derived.Test.YtplljfbbipeakaaDoorLw
namespace Go.Proofs.YtplljfbbipeakaaDoor
open Go Go.RowKit Go.Maps Go.WideMaps Go.WideElems

set_option maxHeartbeats 8000000 in
set_option maxRecDepth 100000 in
theorem fnScan_walk {pv gv mv : Value} {ps : List PV} {gs : List Int} {X : List (List UInt8)} {w : World} (hP : PiecesAt pv ps w) (hG : IntsAt gv gs w) (hM : StrsAt mv X w) (hB : Base w.heap.size kh0 kt0 w)
    (hz : sumZ ps ≤ 1048576) (hgl : gs.length ≤ 1048576) (hxl : X.length ≤ 1048576) (hxt : ∀ m ∈ X, m.length ≤ 1048576) :
    Calls Tryd.prog 7 #[pv, gv, mv] w fun e w' => e = .returned (.bool true) ∧ Below w.heap.size w w' := by
  have hpl := sumZ_ge ps
  have hpt : ∀ p ∈ ps, p.t.size ≤ 2147483647 := fun p hp => by have := sumZ_mem hp; omega
  have hf1 := zzFits1_walk hP (by omega) hpt
  have hgv : ∃ ga gc, gv = .slice ga gs.length gc := by obtain ⟨ga, gc, e, _⟩ := hG; exact ⟨ga, gc, e⟩
  obtain ⟨ga, gc, rfl⟩ := hgv
  have hgl2 : ¬ (2147483647 : Int) < (gs.length : Int) := by omega
  have HF1 := Lib.hid hf1
  have HP := Lib.hid hP
  have HG := Lib.hid hG
  have HM := Lib.hid hM
  have HB := Lib.hid hB
  have HPT := Lib.hid hpt
  have HXT := Lib.hid hxt
  clear hf1 hP hG hM hB hpt hxt
  go_enter Tryd.func7, Tryd.ntmps7
  go_wp2_with fail
  refine HF1.out.mono ?_
  rintro e w1 ⟨rfl, hb1⟩
  have hf3 := zzFits3_walk (HM.out.below hb1) (by omega) (fun m hm => by have := HXT.out m hm; omega)
  have HF3 := Lib.hid hf3
  have Hb1 := Lib.hid hb1
  clear hb1 hf3 HF1
  go_wp2_with fail
  refine HF3.out.mono ?_
  rintro e w1' ⟨rfl, rfl⟩
  have hfm := fitMore_walk (HM.out.below Hb1.out) (by omega)
  have HFM := Lib.hid hfm
  clear hfm HF3
  go_wp2_with fail
  refine HFM.out.mono ?_
  rintro e w2 ⟨mv2, rfl, hS2, hb2⟩
  have hb2' := Hb1.out.trans (hb2.mono Hb1.out.size)
  have Hb2 := Lib.hid hb2'
  have HS2 := Lib.hid hS2
  clear hb2 hb2' hS2 HFM
  have hbytes := layS_bytes gs (fitL X) ps 0
  have hly := lay_walk (ms := fitL X) (HP.out.below Hb2.out) (HG.out.below Hb2.out) HS2.out (by omega) (by omega) (by have := (fitL_len X).1; omega) HPT.out (by rw [layAcc_nil]; omega)
  rw [layAcc_nil] at hly
  have HLY := Lib.hid hly
  clear hly hbytes
  go_wp2_with fail
  refine HLY.out.mono ?_
  rintro e w3 ⟨wv, rfl, hown3, hb3⟩
  have hb3' := Hb2.out.trans (hb3.mono Hb2.out.size)
  have hbase3 := Base.mono (HB.out.below hb3') hb3'.size (Nat.le_refl _)
  have hS3 := HS2.out.below hb3
  have Hb3 := Lib.hid hb3'
  have HB3 := Lib.hid hbase3
  have HS3 := Lib.hid hS3
  have HO3 := Lib.hid hown3
  clear hb3 hb3' hbase3 hS3 HLY hown3
  by_cases hn : ps = []
  · subst hn
    have e0 : BA (segsR (layS gs (fitL X) 0 [])) = ⟨#[]⟩ := rfl
    have hwk := works_walk HB3.out kt0_ok (by decide)
    have HWK := Lib.hid hwk
    rw [e0]
    clear hwk e0
    go_wp2_with fail
    refine HWK.out.mono ?_
    rintro e w4 ⟨rfl, hb4⟩
    have Hb4 := Lib.hid (Hb3.out.trans (hb4.mono Hb3.out.size))
    clear hb4
    go_wp2
    go_ret
    exact ⟨rfl, Hb4.out⟩
  · have hGS := goodS_lay X gs hn hz
    have hsc := scanS_walk HB3.out HS3.out hGS
    have hne := src_ne hGS.ne
    have hlen := hGS.len
    have hvl := gotV_len hGS false
    have hvp := gotV_pos false (layS gs (fitL X) 0 ps)
    obtain ⟨hwl, hfit⟩ := want_fits X gs ps
    have ho3 := HO3.out
    rw [wt_cells] at ho3
    change w3.ownsRow w2.heap.size 40 6 wv (ps.length + 1) ((wantV gs (fitL X) ps).flatMap TV.cells) at ho3
    have hwl2 : (wantV gs (fitL X) ps).length = ps.length + 1 := by unfold wantV layEnd; rw [List.length_map, List.length_append, layAcc_len]; simp
    rw [← hwl2] at ho3
    obtain ⟨g3, c3, e3, _, hg32, hrow3⟩ := rowAt_own ho3 (by omega)
    rw [hwl] at e3
    subst e3
    have HR3 := Lib.hid hrow3
    have HFIT := Lib.hid hfit
    clear ho3 hwl2 hfit hrow3 HO3
    generalize wantV gs (fitL X) ps = T at *
    generalize layS gs (fitL X) 0 ps = S at *
    have hsd : (BA (segsR S)).data.toList = encL (segsR S) := by simp [BA]
    have hss : (BA (segsR S)).size = (encL (segsR S)).length := ba_size _
    rw [← hsd] at hne
    rw [← hss] at hlen
    unfold GotPost at hsc
    generalize BA (segsR S) = s at *
    generalize gotV false S = V at *
    have hne2 : (s.toList == []) = false := by rw [ByteArray.toList_eq]; simpa using hne
    have HSC := Lib.hid hsc
    clear hsc hGS hn hne hsd hss HP HG HM HPT HXT
    go_wp2_with fail
    refine HSC.out.mono ?_
    rintro e w4 ⟨v, rfl, hown, hb4⟩
    obtain ⟨g, c, rfl, hg1, hg2, hrow⟩ := rowAt_own hown hvp
    have hb4' := Hb3.out.trans (hb4.mono Hb3.out.size)
    have hbase4 := Base.mono (HB3.out.below hb4) hb4.size (Nat.le_refl _)
    have Hb4 := Lib.hid hb4'
    have HB4 := Lib.hid hbase4
    have HROW := Lib.hid hrow
    have hrow3 := HR3.out.below hg32 hb4
    have hg34 := Nat.lt_of_lt_of_le hg32 hb4.size
    have HR4 := Lib.hid hrow3
    clear hrow3 HR3
    clear hown hb4 hb4' hbase4 hrow HSC HB3 HS3 HS2 HB Hb3 Hb2 Hb1
    go_wp2
    go_loopg [62] V.length (fun gg i wr => ∃ k : Nat, k + gg = V.length ∧ i = .int .i64 (k : Int) ∧ Below w4.heap.size w4 wr)
    case atStart => exact ⟨0, by simp, rfl, Below.refl _ _⟩
    case round =>
      obtain ⟨k, hk0, rfl, hbw⟩ := hrel
      cases gk with
      | zero =>
        obtain rfl : k = V.length := by omega
        have hb5 := Hb4.out.trans (hbw.mono Hb4.out.size)
        have Hb5 := Lib.hid hb5
        clear hbw hb5
        go_wp2
        go_ret
        exact ⟨rfl, Hb5.out⟩
      | succ gg =>
        have hk : k < V.length := by omega
        have hk2 : (k + 1) + gg = V.length := by omega
        obtain ⟨m1, m2⟩ := HFIT.out k (by omega) hk
        obtain ⟨q0, q1, q2, q3, q4, q5⟩ := (HR4.out.below hg34 hbw) k (by omega)
        have hki : (k : Int) < (V.length : Int) := by omega
        have hbs := hbw.size
        have hr : ∀ o : Obj, RowAt g V (wr.alloc o) := fun o => HROW.out.below hg2 (hbw.alloc hbs o)
        have r0 : ∀ o : Obj, (wr.alloc o).cell? ⟨g, k * 6, none⟩ = some (.int .i64 V[k].tk) := fun o => (hr o k hk).1
        have r1 : ∀ o : Obj, (wr.alloc o).cell? ⟨g, k * 6 + 1, none⟩ = some (.string V[k].lit) := fun o => (hr o k hk).2.1
        have r2 : ∀ o : Obj, (wr.alloc o).cell? ⟨g, k * 6 + 2, none⟩ = some (.int .i64 V[k].off) := fun o => (hr o k hk).2.2.1
        have r3 : ∀ o : Obj, (wr.alloc o).cell? ⟨g, k * 6 + 3, none⟩ = some (.int .i64 V[k].stop) := fun o => (hr o k hk).2.2.2.1
        have r4 : ∀ o : Obj, (wr.alloc o).cell? ⟨g, k * 6 + 4, none⟩ = some (.int .i64 V[k].row) := fun o => (hr o k hk).2.2.2.2.1
        have r5 : ∀ o : Obj, (wr.alloc o).cell? ⟨g, k * 6 + 5, none⟩ = some (.int .i64 V[k].col) := fun o => (hr o k hk).2.2.2.2.2
        clear hr
        have hba := (hbw.alloc hbs (.cells #[.int .i64 (T[k]'(by omega)).tk, .string (T[k]'(by omega)).lit, .int .i64 (T[k]'(by omega)).off, .int .i64 (T[k]'(by omega)).stop, .int .i64 (T[k]'(by omega)).row, .int .i64 (T[k]'(by omega)).col] 40)).alloc (by rw [World.size_alloc]; omega) (.cells #[.int .i64 V[k].tk, .string V[k].lit, .int .i64 V[k].off, .int .i64 V[k].stop, .int .i64 V[k].row, .int .i64 V[k].col] 40)
        generalize V[k] = v at *
        generalize T[k]'(by omega) = x at *
        obtain ⟨tk, lit, off, stop, row, col⟩ := v
        obtain ⟨xtk, xlit, xoff, xstop, xrow, xcol⟩ := x
        simp only at m1 m2 r0 r1 r2 r3 r4 r5 q0 q1 q2 q3 q4 q5 hba
        have HBA := Lib.hid hba
        by_cases hlast : k + 1 = V.length
        · obtain ⟨e1, e2⟩ := m1 hlast
          subst e1 e2
          clear m1 m2 hlast hbw hba
          go_wp2
          go_roundg gg
          case measure => omega
          case rel => exact ⟨k + 1, hk2, by go_num, HBA.out⟩
        · obtain ⟨e1, e2, e3, e4, e5, _⟩ := m2 (by omega)
          subst e1 e2 e3 e4
          have ht2 : (xtk == 1) = false := by simpa using e5
          clear m1 m2 hlast hbw hba
          go_wp2
          go_roundg gg
          case measure => omega
          case rel => exact ⟨k + 1, hk2, by go_num, HBA.out⟩

end Go.Proofs.YtplljfbbipeakaaDoor
