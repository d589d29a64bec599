/- laws.FnCover, walked. -/
import Derived.Test.YtplljfbbipeakaaDoorLw
namespace Go.Proofs.YtplljfbbipeakaaDoor
open Go Go.RowKit Go.Maps Go.WideMaps Go.WideElems

set_option maxHeartbeats 8000000 in
set_option maxRecDepth 100000 in
theorem fnCover_walk {pv gv mv : Value} {ps : List PV} {gs : List Int} {X : List (List UInt8)} {w : World} (hP : PiecesAt pv ps w) (hG : IntsAt gv gs w) (hM : StrsAt mv X w) (hB : Base w.heap.size kh0 kt0 w)
    (hz : sumZ ps ≤ 1048576) (hgl : gs.length ≤ 1048576) (hxl : X.length ≤ 1048576) (hxt : ∀ m ∈ X, m.length ≤ 1048576) :
    Calls Tryd.prog 9 #[pv, gv, mv] w fun e w' => e = .returned (.bool true) ∧ Below w.heap.size w w' := by
  have hpl := sumZ_ge ps
  have hpt : ∀ p ∈ ps, p.t.size ≤ 2147483647 := fun p hp => by have := sumZ_mem hp; omega
  have hf1 := zzFits1_walk hP (by omega) hpt
  have hgv : ∃ ga gc, gv = .slice ga gs.length gc := by obtain ⟨ga, gc, e, _⟩ := hG; exact ⟨ga, gc, e⟩
  obtain ⟨ga, gc, rfl⟩ := hgv
  have hgl2 : ¬ (2147483647 : Int) < (gs.length : Int) := by omega
  have HF1 := Lib.hid hf1
  have HP := Lib.hid hP
  have HG := Lib.hid hG
  have HM := Lib.hid hM
  have HB := Lib.hid hB
  have HPT := Lib.hid hpt
  have HXT := Lib.hid hxt
  clear hf1 hP hG hM hB hpt hxt
  go_enter Tryd.func9, Tryd.ntmps9
  go_wp2_with fail
  refine HF1.out.mono ?_
  rintro e w1 ⟨rfl, hb1⟩
  have hf3 := zzFits3_walk (HM.out.below hb1) (by omega) (fun m hm => by have := HXT.out m hm; omega)
  have HF3 := Lib.hid hf3
  have Hb1 := Lib.hid hb1
  clear hb1 hf3 HF1
  go_wp2_with fail
  refine HF3.out.mono ?_
  rintro e w1' ⟨rfl, rfl⟩
  have hfm := fitMore_walk (HM.out.below Hb1.out) (by omega)
  have HFM := Lib.hid hfm
  clear hfm HF3
  go_wp2_with fail
  refine HFM.out.mono ?_
  rintro e w2 ⟨mv2, rfl, hS2, hb2⟩
  have hb2' := Hb1.out.trans (hb2.mono Hb1.out.size)
  have Hb2 := Lib.hid hb2'
  have HS2 := Lib.hid hS2
  clear hb2 hb2' hS2 HFM
  have hbytes := layS_bytes gs (fitL X) ps 0
  have hly := lay_walk (ms := fitL X) (HP.out.below Hb2.out) (HG.out.below Hb2.out) HS2.out (by omega) (by omega) (by have := (fitL_len X).1; omega) HPT.out (by rw [layAcc_nil]; omega)
  rw [layAcc_nil] at hly
  have HLY := Lib.hid hly
  clear hly hbytes
  go_wp2_with fail
  refine HLY.out.mono ?_
  rintro e w3 ⟨wv, rfl, hown3, hb3⟩
  have hb3' := Hb2.out.trans (hb3.mono Hb2.out.size)
  have hbase3 := Base.mono (HB.out.below hb3') hb3'.size (Nat.le_refl _)
  have hS3 := HS2.out.below hb3
  have Hb3 := Lib.hid hb3'
  have HB3 := Lib.hid hbase3
  have HS3 := Lib.hid hS3
  have HO3 := Lib.hid hown3
  clear hb3 hb3' hbase3 hS3 HLY hown3
  by_cases hn : ps = []
  · subst hn
    have e0 : BA (segsR (layS gs (fitL X) 0 [])) = ⟨#[]⟩ := rfl
    have hwk := works_walk HB3.out kt0_ok (by decide)
    have HWK := Lib.hid hwk
    rw [e0]
    clear hwk e0
    go_wp2_with fail
    refine HWK.out.mono ?_
    rintro e w4 ⟨rfl, hb4⟩
    have Hb4 := Lib.hid (Hb3.out.trans (hb4.mono Hb3.out.size))
    clear hb4
    go_wp2
    go_ret
    exact ⟨rfl, Hb4.out⟩
  · have hGS := goodS_lay X gs hn hz
    have hsc := scanAllS_walk HB3.out HS3.out hGS
    have hne := src_ne hGS.ne
    have hlen := hGS.len
    have hvl := gotV_len hGS true
    have hvp := gotV_pos true (layS gs (fitL X) 0 ps)
    have hcov := gotV_cover hGS
    generalize layS gs (fitL X) 0 ps = S at *
    have hsd : (BA (segsR S)).data.toList = encL (segsR S) := by simp [BA]
    have hss : (BA (segsR S)).size = (encL (segsR S)).length := ba_size _
    rw [← hsd] at hne
    rw [← hss] at hlen
    rw [← hss] at hcov
    generalize cutV S = cut at *
    have HCOV := Lib.hid hcov
    clear hcov
    unfold GotPost at hsc
    generalize BA (segsR S) = s at *
    generalize gotV true S = V at *
    have hne2 : (s.toList == []) = false := by rw [ByteArray.toList_eq]; simpa using hne
    have HSC := Lib.hid hsc
    clear hsc hGS hn hne hsd hss HP HG HM HPT HXT
    go_wp2_with fail
    refine HSC.out.mono ?_
    rintro e w4 ⟨v, rfl, hown, hb4⟩
    obtain ⟨g, c, rfl, hg1, hg2, hrow⟩ := rowAt_own hown hvp
    have hb4' := Hb3.out.trans (hb4.mono Hb3.out.size)
    have hbase4 := Base.mono (HB3.out.below hb4) hb4.size (Nat.le_refl _)
    have Hb4 := Lib.hid hb4'
    have HB4 := Lib.hid hbase4
    have HROW := Lib.hid hrow
    clear HO3
    clear hown hb4 hb4' hbase4 hrow HSC HB3 HS3 HS2 HB Hb3 Hb2 Hb1
    obtain ⟨hc0, HCV⟩ := HCOV.out
    have HCV := Lib.hid HCV
    have HC0 := Lib.hid hc0
    clear hc0
    go_wp2
    go_loopg [12, 49] V.length (fun gg a i wr => ∃ k : Nat, k + gg = V.length ∧ k < V.length ∧ i = .int .i64 (k : Int) ∧ a = .int .i64 (cut k : Int) ∧ Below w4.heap.size w4 wr)
    case atStart => exact ⟨0, by simp, hvp, rfl, by rw [HC0.out]; rfl, Below.refl _ _⟩
    case round =>
      obtain ⟨k, hk0, hk, rfl, rfl, hbw⟩ := hrel
      cases gk with
      | zero => omega
      | succ gg =>
        obtain ⟨m1, m2⟩ := HCV.out k hk
        obtain ⟨r0, r1, r2, r3, r4, r5⟩ := (HROW.out.below hg2 hbw) k hk
        have hki : (k : Int) < (V.length : Int) := by omega
        have hbs := hbw.size
        have Hbw := Lib.hid hbw
        clear hbw
        generalize V[k] = v at *
        obtain ⟨tk, lit, off, stop, row, col⟩ := v
        simp only at m1 m2 r0 r1 r2 r3 r4 r5
        by_cases hlast : k + 1 = V.length
        · have ht := m1 hlast
          subst ht
          have hkl : (k : Int) = (V.length : Int) - 1 := by omega
          have hwk := fun (W : World) (hb : Below w4.heap.size w4 W) => works_walk (Base.mono (HB4.out.below hb) hb.size (Nat.le_refl _)) kt0_ok (by decide)
          have HWK := Lib.hid hwk
          have HKL := Lib.hid hkl
          clear m1 m2 hlast hwk hkl
          go_wp2_with fail
          refine (HWK.out _ (Hbw.out.alloc hbs _)).mono ?_
          rintro e w6 ⟨rfl, hb6⟩
          have hb6' := Hb4.out.trans ((Hbw.out.alloc hbs (.cells #[.int .i64 1, .string lit, .int .i64 off, .int .i64 stop, .int .i64 row, .int .i64 col] 40)).mono Hb4.out.size)
          have hb7 := hb6'.trans (hb6.mono hb6'.size)
          have Hb7 := Lib.hid hb7
          have hkq : ((k : Int) == (V.length : Int) - 1) = true := by rw [HKL.out]; exact beq_self_eq_true _
          clear hb6 hb6' hb7
          go_wp2
          go_ret
          exact ⟨rfl, Hb7.out⟩
        · obtain ⟨ht1, e1, e2, e3, e4⟩ := m2 (by omega)
          have hk2 : (k + 1) + gg = V.length := by omega
          have hk3 : k + 1 < V.length := by omega
          have ht2 : (tk == 1) = false := by simpa using ht1
          subst e1 e2
          have n1 : ¬ (cut k : Int) < (cut k : Int) := by omega
          have n2 : ¬ (cut (k + 1) : Int) < (cut k : Int) := by omega
          have n3 : ¬ (s.size : Int) < (cut (k + 1) : Int) := by omega
          clear m1 m2 hlast ht1 hk0
          go_wp2
          go_roundg gg
          case measure => omega
          case rel => exact ⟨k + 1, hk2, hk3, by go_num, rfl, Hbw.out.alloc hbs _⟩

end Go.Proofs.YtplljfbbipeakaaDoor
