/- laws.FnJoined, walked. -/
import Derived.Test.YtplljfbbipeakaaDoorLw
namespace Go.Proofs.YtplljfbbipeakaaDoor
open Go Go.RowKit Go.Maps Go.WideMaps Go.WideElems

theorem seqV_bound : ∀ (gs : List Seg) (pre : List Nat), ∀ v ∈ seqV pre gs, v.off ≤ (encL (pre ++ segsR gs)).length ∧ v.stop ≤ (encL (pre ++ segsR gs)).length
  | [], _, v, hv => by cases hv
  | g :: gs, pre, v, hv => by
    have e : (encL (pre ++ segsR (g :: gs))).length = (encL pre).length + ((encL g.body).length + (encL (segsR gs)).length) := by
      rw [segsR_cons, encL_append, encL_append, List.length_append, List.length_append]
    rcases List.mem_cons.1 hv with rfl | hv
    · refine ⟨?_, ?_⟩
      · show (encL pre).length ≤ _; omega
      · show (encL (pre ++ g.body)).length ≤ _; rw [encL_append, List.length_append]; omega
    · have ih := seqV_bound gs _ v hv
      rw [List.append_assoc, ← segsR_cons] at ih
      exact ih
theorem gotV_bound (S : List Seg) : ∀ j (h : j < (gotV false S).length), (gotV false S)[j].off ≤ (encL (segsR S)).length ∧ (gotV false S)[j].stop ≤ (encL (segsR S)).length := by
  intro j h
  rcases List.mem_append.1 (List.getElem_mem h) with hm | hm
  · exact seqV_bound S [] _ (List.mem_filter.1 hm).1
  · rw [List.mem_singleton.1 hm]; exact ⟨Nat.le_refl _, Nat.le_refl _⟩

theorem joined_at (A B : List Seg) : ∃ n, (gotV false A).length = n + 1 ∧ (gotV false (A ++ nlSeg :: B)).length = n + (gotV false B).length ∧
    (∀ k (_ : k < n) (h1 : k < (gotV false (A ++ nlSeg :: B)).length) (h2 : k < (gotV false A).length), (gotV false (A ++ nlSeg :: B))[k] = (gotV false A)[k]) ∧
    (∀ j (h1 : n + j < (gotV false (A ++ nlSeg :: B)).length) (h2 : j < (gotV false B).length), Shift ((encL (segsR A)).length + 1) (gotV false (A ++ nlSeg :: B))[n + j] (gotV false B)[j]) := by
  obtain ⟨xs, zs, e1, e2, h⟩ := joined_got A B
  generalize gotV false B = V2 at *
  refine ⟨xs.length, ?_, ?_, ?_, ?_⟩
  · rw [e2, List.length_append]; rfl
  · rw [e1, List.length_append, h.length]
  · rw [e1, e2]
    intro k hk h1 h2
    rw [List.getElem_append_left hk, List.getElem_append_left hk]
  · rw [e1]
    intro j h1 h2
    have hz := h.length
    rw [List.getElem_append_right (by omega)]
    have hj : xs.length + j - xs.length = j := by omega
    have := h.get j (by omega) h2
    simpa only [hj] using this

theorem join_src (A B : List Seg) : BA (segsR A) ++ ⟨#[10]⟩ ++ BA (segsR B) = BA (segsR (A ++ nlSeg :: B)) := by
  have e : (⟨#[10]⟩ : ByteArray) = BA [10] := by rw [ba_one (by decide)]; rfl
  rw [e, ba_app, ba_app, segsR_append, segsR_cons, List.append_assoc]; rfl

set_option maxHeartbeats 8000000 in
set_option maxRecDepth 100000 in
theorem fnJoined_walk {pv qv mv : Value} {ps qs : List PV} {X : List (List UInt8)} {w : World} (hP : PiecesAt pv ps w) (hQ : PiecesAt qv qs w) (hM : StrsAt mv X w) (hB : Base w.heap.size kh0 kt0 w)
    (hz : sumZ ps ≤ 1048576) (hz2 : sumZ qs ≤ 1048576) (hxl : X.length ≤ 1048576) (hxt : ∀ m ∈ X, m.length ≤ 1048576) :
    Calls Tryd.prog 6 #[pv, qv, mv] w fun e w' => e = .returned (.bool true) ∧ Below w.heap.size w w' := by
  have hpl := sumZ_ge ps
  have hql := sumZ_ge qs
  have hpt : ∀ p ∈ ps, p.t.size ≤ 2147483647 := fun p hp => by have := sumZ_mem hp; omega
  have hqt : ∀ p ∈ qs, p.t.size ≤ 2147483647 := fun p hp => by have := sumZ_mem hp; omega
  have hf1 := zzFits1_walk hP (by omega) hpt
  have HF1 := Lib.hid hf1
  have HP := Lib.hid hP
  have HQ := Lib.hid hQ
  have HM := Lib.hid hM
  have HB := Lib.hid hB
  have HPT := Lib.hid hpt
  have HQT := Lib.hid hqt
  have HXT := Lib.hid hxt
  clear hf1 hP hQ hM hB hpt hqt hxt
  go_enter Tryd.func6, Tryd.ntmps6
  go_wp2_with fail
  refine HF1.out.mono ?_
  rintro e w0 ⟨rfl, hb0⟩
  have hf2 := zzFits1_walk (HQ.out.below hb0) (by omega) HQT.out
  have HF2 := Lib.hid hf2
  have Hb0 := Lib.hid hb0
  clear hb0 hf2 HF1
  go_wp2_with fail
  refine HF2.out.mono ?_
  rintro e w1 ⟨rfl, hb1⟩
  have hb1' := Hb0.out.trans (hb1.mono Hb0.out.size)
  have hf3 := zzFits3_walk (HM.out.below hb1') (by omega) (fun m hm => by have := HXT.out m hm; omega)
  have HF3 := Lib.hid hf3
  have Hb1 := Lib.hid hb1'
  clear hb1 hb1' hf3 HF2 Hb0
  go_wp2_with fail
  refine HF3.out.mono ?_
  rintro e w1' ⟨rfl, rfl⟩
  have hfm := fitMore_walk (HM.out.below Hb1.out) (by omega)
  have HFM := Lib.hid hfm
  clear hfm HF3
  go_wp2_with fail
  refine HFM.out.mono ?_
  rintro e w2 ⟨mv2, rfl, hS2, hb2⟩
  have hb2' := Hb1.out.trans (hb2.mono Hb1.out.size)
  have Hb2 := Lib.hid hb2'
  have HS2 := Lib.hid hS2
  clear hb2 hb2' hS2 HFM
  have hbytes := layS_bytes [] (fitL X) ps 0
  have hly := lay_walk (ms := fitL X) (HP.out.below Hb2.out) (IntsAt.nil w2) HS2.out (by omega) (by simp) (by have := (fitL_len X).1; omega) HPT.out (by rw [layAcc_nil]; omega)
  rw [layAcc_nil] at hly
  have HLY := Lib.hid hly
  clear hly hbytes
  go_wp2_with fail
  refine HLY.out.mono ?_
  rintro e w3 ⟨wv, rfl, _, hb3⟩
  have hb3' := Hb2.out.trans (hb3.mono Hb2.out.size)
  have hS3 := HS2.out.below hb3
  have Hb3 := Lib.hid hb3'
  have HS3 := Lib.hid hS3
  clear hb3 hb3' hS3 HLY HS2
  have hbytes := layS_bytes [] (fitL X) qs 0
  have hly := lay_walk (ms := fitL X) (HQ.out.below Hb3.out) (IntsAt.nil w3) HS3.out (by omega) (by simp) (by have := (fitL_len X).1; omega) HQT.out (by rw [layAcc_nil]; omega)
  rw [layAcc_nil] at hly
  have HLY := Lib.hid hly
  clear hly hbytes
  go_wp2_with fail
  refine HLY.out.mono ?_
  rintro e w4 ⟨wv2, rfl, _, hb4⟩
  have hb4' := Hb3.out.trans (hb4.mono Hb3.out.size)
  have hbase4 := Base.mono (HB.out.below hb4') hb4'.size (Nat.le_refl _)
  have hS4 := HS3.out.below hb4
  have Hb4 := Lib.hid hb4'
  have HB4 := Lib.hid hbase4
  have HS4 := Lib.hid hS4
  clear hb4 hb4' hbase4 hS4 HLY HS3
  have hwk := works_walk HB4.out kt0_ok (by decide)
  have HWK := Lib.hid hwk
  clear hwk
  by_cases hn : ps = []
  · subst hn
    have e0 : BA (segsR (layS [] (fitL X) 0 [])) = ⟨#[]⟩ := rfl
    rw [e0]
    clear e0
    go_wp2_with fail
    refine HWK.out.mono ?_
    rintro e w5 ⟨rfl, hb5⟩
    have Hb5 := Lib.hid (Hb4.out.trans (hb5.mono Hb4.out.size))
    clear hb5
    go_wp2
    go_ret
    exact ⟨rfl, Hb5.out⟩
  have hGS := goodS_lay X [] hn hz
  have hne := src_ne hGS.ne
  have hsd : (BA (segsR (layS [] (fitL X) 0 ps))).data.toList = encL (segsR (layS [] (fitL X) 0 ps)) := by simp [BA]
  rw [← hsd] at hne
  have hne2 : ((BA (segsR (layS [] (fitL X) 0 ps))).toList == []) = false := by rw [ByteArray.toList_eq]; simpa using hne
  have HNE := Lib.hid hne2
  clear hne hsd hne2
  by_cases hn2 : qs = []
  · subst hn2
    have e0 : BA (segsR (layS [] (fitL X) 0 [])) = ⟨#[]⟩ := rfl
    rw [e0]
    have hne2 := HNE.out
    generalize BA (segsR (layS [] (fitL X) 0 ps)) = s at *
    clear e0
    go_wp2_with fail
    refine HWK.out.mono ?_
    rintro e w5 ⟨rfl, hb5⟩
    have Hb5 := Lib.hid (Hb4.out.trans (hb5.mono Hb4.out.size))
    clear hb5
    go_wp2
    go_ret
    exact ⟨rfl, Hb5.out⟩
  have hGT := goodS_lay X [] hn2 hz2
  have hGJ := goodS_join X [] [] hn2 hz hz2 (ps := ps)
  have hne := src_ne hGT.ne
  have hsd : (BA (segsR (layS [] (fitL X) 0 qs))).data.toList = encL (segsR (layS [] (fitL X) 0 qs)) := by simp [BA]
  rw [← hsd] at hne
  have hne3 : ((BA (segsR (layS [] (fitL X) 0 qs))).toList == []) = false := by rw [ByteArray.toList_eq]; simpa using hne
  have hne2 := HNE.out
  clear hne hsd HNE hn hn2 HP HQ HM HPT HQT HXT HWK
  generalize layS [] (fitL X) 0 ps = A at *
  generalize layS [] (fitL X) 0 qs = B at *
  have hscA := fun (W : World) (hb : Base W.heap.size kh0 kt0 W) (hs : StrsAt mv2 (fitL X) W) => scanS_walk hb hs hGS
  have hscB := fun (W : World) (hb : Base W.heap.size kh0 kt0 W) (hs : StrsAt mv2 (fitL X) W) => scanS_walk hb hs hGT
  have hscJ := fun (W : World) (hb : Base W.heap.size kh0 kt0 W) (hs : StrsAt mv2 (fitL X) W) => scanS_walk hb hs hGJ
  obtain ⟨n, hl1, hl3, hj1, hj2⟩ := joined_at A B
  have hbd := gotV_bound B
  have hlenA := hGS.len
  have hlenB := hGT.len
  have hvl1 := gotV_len hGS false
  have hvl2 := gotV_len hGT false
  have hvp2 := gotV_pos false B
  have hvp3 := gotV_pos false (A ++ nlSeg :: B)
  have hssA : (BA (segsR A)).size = (encL (segsR A)).length := ba_size _
  have hssB : (BA (segsR B)).size = (encL (segsR B)).length := ba_size _
  rw [← hssA] at hlenA hj2
  rw [← hssB] at hlenB hbd
  rw [← join_src] at hscJ
  unfold GotPost at hscA hscB hscJ
  generalize BA (segsR A) = s at *
  generalize BA (segsR B) = t at *
  generalize gotV false (A ++ nlSeg :: B) = V3 at *
  generalize gotV false A = V1 at *
  generalize gotV false B = V2 at *
  rw [hl1] at hvl1
  have HSA := Lib.hid hscA
  have HSB := Lib.hid hscB
  have HSJ := Lib.hid hscJ
  have HJ1 := Lib.hid hj1
  have HJ2 := Lib.hid hj2
  have HBD := Lib.hid hbd
  have hz1 : s.size + 1 ≤ 9223372036854775807 := by omega
  have hz3 : s.size + 1 + t.size ≤ 9223372036854775807 := by omega
  clear hscA hscB hscJ hj1 hj2 hbd hGS hGT hGJ hssA hssB hz hz2 hpl hql
  go_wp2_with fail
  refine (HSA.out _ HB4.out HS4.out).mono ?_
  rintro e w5 ⟨v1, rfl, hown1, hb5⟩
  obtain ⟨g1, c1, e1, _, hg1, hrow1⟩ := rowAt_own hown1 (by omega)
  rw [hl1] at e1
  subst e1
  have hb5' := Hb4.out.trans (hb5.mono Hb4.out.size)
  have hbase5 := Base.mono (HB4.out.below hb5) hb5.size (Nat.le_refl _)
  have hS5 := HS4.out.below hb5
  have Hb5 := Lib.hid hb5'
  have HB5 := Lib.hid hbase5
  have HS5 := Lib.hid hS5
  have HR1 := Lib.hid hrow1
  clear hb5 hb5' hbase5 hS5 hrow1 hown1 HB4 HS4 HSA
  go_wp2_with fail
  refine (HSB.out _ HB5.out HS5.out).mono ?_
  rintro e w6 ⟨v2, rfl, hown2, hb6⟩
  obtain ⟨g2, c2, rfl, _, hg2, hrow2⟩ := rowAt_own hown2 hvp2
  have hb6' := Hb5.out.trans (hb6.mono Hb5.out.size)
  have hbase6 := Base.mono (HB5.out.below hb6) hb6.size (Nat.le_refl _)
  have hS6 := HS5.out.below hb6
  have hR16 := HR1.out.below hg1 hb6
  have hg16 := Nat.lt_of_lt_of_le hg1 hb6.size
  have Hb6 := Lib.hid hb6'
  have HB6 := Lib.hid hbase6
  have HS6 := Lib.hid hS6
  have HR16 := Lib.hid hR16
  have HR2 := Lib.hid hrow2
  clear hb6 hb6' hbase6 hS6 hrow2 hR16 hown2 HB5 HS5 HSB HR1
  go_wp2_with fail
  refine (HSJ.out _ HB6.out HS6.out).mono ?_
  rintro e w7 ⟨v3, rfl, hown3, hb7⟩
  obtain ⟨g3, c3, e3, _, hg3, hrow3⟩ := rowAt_own hown3 hvp3
  rw [hl3] at e3
  subst e3
  have hb7' := Hb6.out.trans (hb7.mono Hb6.out.size)
  have hR17 := HR16.out.below hg16 hb7
  have hR27 := HR2.out.below hg2 hb7
  have hg17 := Nat.lt_of_lt_of_le hg16 hb7.size
  have hg27 := Nat.lt_of_lt_of_le hg2 hb7.size
  have Hb7 := Lib.hid hb7'
  have HR17 := Lib.hid hR17
  have HR27 := Lib.hid hR27
  have HR3 := Lib.hid hrow3
  clear hb7 hb7' hrow3 hR17 hR27 hown3 HB6 HS6 HSJ HR16 HR2 Hb1 Hb2 Hb3 Hb4 Hb5 Hb6 HB
  go_wp2
  go_loopg [113] (n + V2.length) (fun gg i wr => ∃ k : Nat, k + gg = n + V2.length ∧ i = .int .i64 (k : Int) ∧ Below w7.heap.size w7 wr)
  case atStart => exact ⟨0, by simp, rfl, Below.refl _ _⟩
  case round =>
    obtain ⟨k, hk0, rfl, hbw⟩ := hrel
    cases gk with
    | zero =>
      obtain rfl : k = n + V2.length := by omega
      have hb8 := Hb7.out.trans (hbw.mono Hb7.out.size)
      have Hb8 := Lib.hid hb8
      clear hbw hb8
      go_wp2
      go_ret
      exact ⟨rfl, Hb8.out⟩
    | succ gg =>
      have hk : k < V3.length := by omega
      have hk2 : (k + 1) + gg = n + V2.length := by omega
      have hki : (k : Int) < (n : Int) + (V2.length : Int) := by omega
      obtain ⟨r0, r1, r2, r3, r4, r5⟩ := (HR3.out.below hg3 hbw) k hk
      have hbs := hbw.size
      have hba : ∀ o o' : Obj, Below w7.heap.size w7 ((wr.alloc o).alloc o') := fun o o' => (hbw.alloc hbs o).alloc (by rw [World.size_alloc]; omega) o'
      have HBA := Lib.hid hba
      by_cases hkn : k < n
      · have hv := HJ1.out k hkn hk (by omega)
        have hr : ∀ o o' : Obj, RowAt g1 V1 ((wr.alloc o).alloc o') := fun o o' => HR17.out.below hg17 (hba o o')
        have hk1 : k < V1.length := by omega
        have q0 : ∀ o o' : Obj, ((wr.alloc o).alloc o').cell? ⟨g1, k * 6, none⟩ = some (.int .i64 V1[k].tk) := fun o o' => (hr o o' k hk1).1
        have q1 : ∀ o o' : Obj, ((wr.alloc o).alloc o').cell? ⟨g1, k * 6 + 1, none⟩ = some (.string V1[k].lit) := fun o o' => (hr o o' k hk1).2.1
        have q2 : ∀ o o' : Obj, ((wr.alloc o).alloc o').cell? ⟨g1, k * 6 + 2, none⟩ = some (.int .i64 V1[k].off) := fun o o' => (hr o o' k hk1).2.2.1
        have q3 : ∀ o o' : Obj, ((wr.alloc o).alloc o').cell? ⟨g1, k * 6 + 3, none⟩ = some (.int .i64 V1[k].stop) := fun o o' => (hr o o' k hk1).2.2.2.1
        have q4 : ∀ o o' : Obj, ((wr.alloc o).alloc o').cell? ⟨g1, k * 6 + 4, none⟩ = some (.int .i64 V1[k].row) := fun o o' => (hr o o' k hk1).2.2.2.2.1
        have q5 : ∀ o o' : Obj, ((wr.alloc o).alloc o').cell? ⟨g1, k * 6 + 5, none⟩ = some (.int .i64 V1[k].col) := fun o o' => (hr o o' k hk1).2.2.2.2.2
        rw [hv] at r0 r1 r2 r3 r4 r5
        clear hr hv
        generalize V1[k] = v at *
        obtain ⟨tk, lit, off, stop, row, col⟩ := v
        simp only at r0 r1 r2 r3 r4 r5 q0 q1 q2 q3 q4 q5
        have hkn2 : (k : Int) < (n : Int) := by omega
        clear hbw hba hk hk0
        by_cases ht : tk = 1
        · subst ht
          go_wp2
          go_roundg gg
          case measure => omega
          case rel => exact ⟨k + 1, hk2, by go_num, HBA.out _ _⟩
        · have ht2 : (tk == 1) = false := by simpa using ht
          go_wp2
          go_roundg gg
          case measure => omega
          case rel => exact ⟨k + 1, hk2, by go_num, HBA.out _ _⟩
      · obtain ⟨j, rfl⟩ : ∃ j, k = n + j := ⟨k - n, by omega⟩
        have hjl : j < V2.length := by omega
        have hv := HJ2.out j hk hjl
        have hbd := HBD.out j hjl
        have hr : ∀ o o' : Obj, RowAt g2 V2 ((wr.alloc o).alloc o') := fun o o' => HR27.out.below hg27 (hba o o')
        have q0 : ∀ o o' : Obj, ((wr.alloc o).alloc o').cell? ⟨g2, j * 6, none⟩ = some (.int .i64 V2[j].tk) := fun o o' => (hr o o' j hjl).1
        have q1 : ∀ o o' : Obj, ((wr.alloc o).alloc o').cell? ⟨g2, j * 6 + 1, none⟩ = some (.string V2[j].lit) := fun o o' => (hr o o' j hjl).2.1
        have q2 : ∀ o o' : Obj, ((wr.alloc o).alloc o').cell? ⟨g2, j * 6 + 2, none⟩ = some (.int .i64 V2[j].off) := fun o o' => (hr o o' j hjl).2.2.1
        have q3 : ∀ o o' : Obj, ((wr.alloc o).alloc o').cell? ⟨g2, j * 6 + 3, none⟩ = some (.int .i64 V2[j].stop) := fun o o' => (hr o o' j hjl).2.2.2.1
        have q4 : ∀ o o' : Obj, ((wr.alloc o).alloc o').cell? ⟨g2, j * 6 + 4, none⟩ = some (.int .i64 V2[j].row) := fun o o' => (hr o o' j hjl).2.2.2.2.1
        have q5 : ∀ o o' : Obj, ((wr.alloc o).alloc o').cell? ⟨g2, j * 6 + 5, none⟩ = some (.int .i64 V2[j].col) := fun o o' => (hr o o' j hjl).2.2.2.2.2
        obtain ⟨v1, v2, v3, v4⟩ := hv
        generalize V2[j] = v at *
        generalize V3[n + j] = x at *
        obtain ⟨tk, lit, off, stop, row, col⟩ := v
        obtain ⟨xtk, xlit, xoff, xstop, xrow, xcol⟩ := x
        simp only at r0 r1 r2 r3 r4 r5 q0 q1 q2 q3 q4 q5 v1 v2 v3 v4 hbd
        subst v1 v2
        have hix : (n : Int) + (j : Int) - ((n : Int) + 1) + 1 = (j : Int) := by omega
        have hjl2 : (j : Int) < (V2.length : Int) := by omega
        have ho3 : (off : Int) + (s.size : Int) + 1 = (xoff : Int) := by omega
        have ho4 : (stop : Int) + (s.size : Int) + 1 = (xstop : Int) := by omega
        have ho5 : xoff ≤ 4294967296 := by omega
        have ho6 : xstop ≤ 4294967296 := by omega
        clear hr hbw hba hk hk0 v3 v4
        by_cases ht : xtk = 1
        · subst ht
          go_wp2
          go_roundg gg
          case measure => omega
          case rel => exact ⟨n + j + 1, hk2, by go_num, HBA.out _ _⟩
        · have ht2 : (xtk == 1) = false := by simpa using ht
          go_wp2
          go_roundg gg
          case measure => omega
          case rel => exact ⟨n + j + 1, hk2, by go_num, HBA.out _ _⟩

end Go.Proofs.YtplljfbbipeakaaDoor
