/- io.ReadAll over a strings.Reader, walked. -/
import Derived.Test.YtplljfbbipeakaaDoorRdB
namespace Go.Proofs.YtplljfbbipeakaaDoor
open Go Go.RowKit

/-- The walk stands still here. -/
structure Hold (p : Prop) : Prop where
  out : p

set_option maxHeartbeats 2000000 in
set_option maxRecDepth 100000 in
theorem readAll_walk {w : World} {rb : Nat} {bs : ByteArray} {pr0 : Int} {aE : Addr} (hr : w.heap[rb]? = some (.cells #[.string bs, .int .i64 0, .int .i64 pr0] 90 (0, 0))) (hsz : bs.size ≤ 1099511627776)
    (he : w.cell? ⟨2, 0, none⟩ = some (.iface 153 (.pointer (some aE)))) :
    Calls Tryd.prog 49 #[.iface 66 (.pointer (some ⟨rb, 0, none⟩))] w fun e w' => ∃ bb cap, e = .returned (.tuple #[.slice (some ⟨bb, 0, none⟩) bs.size cap, .nilIface]) ∧ bs.size ≤ cap ∧
      w.heap.size ≤ bb ∧ BytesAt bb bs w' ∧ Stays w.heap.size rb w w' := by
  have R := Lib.hid hr
  have E := Lib.hid he
  clear hr he
  have m512 := mk512
  have m4 := mk4
  go_enter Tryd.func49, Tryd.ntmps49
  go_wp2
  go_loopg [4, 5, 6, 7] bs.size (fun k t4 t5 t6 t7 wr => ∃ (g len cap next cg cc : Nat), ∃ cs pr cur, (t4 = .slice (some ⟨g, 0, none⟩) len cap ∧ t5 = .int .i64 next ∧ t6 = .slice (some ⟨cg, 0, none⟩) (List.length cs) cc ∧ t7 = .int .i64 (chunkSum cs)) ∧ len < cap ∧ RdInv bs w.heap.size rb w k wr g len cap next cg cc cs pr cur)
  case atStart =>
    refine ⟨w.heap.size, 0, 512, 256, w.heap.size + 1, 4, [], pr0, Array.replicate 512 (.int .u8 0), ⟨rfl, rfl, rfl, rfl⟩, by omega, ?_⟩
    have lrb := lt_of_block R.out
    have hh : ((w.alloc (.cells (Array.replicate 512 (.int .u8 0)) 5)).alloc (.cells (Array.replicate 4 (.slice none 0 0)) 81)).heap[w.heap.size]? = some (.cells (Array.replicate 512 (.int .u8 0)) 5) := row_alloc (heap_alloc_new w _)
    refine ⟨by simp [chunkSum], hh, by simp, by omega, by omega, by unfold maxLen; omega, fun j hj => by omega, Nat.le_refl _, fun c hc => by simp at hc, by omega, by simp [chunkSum], by omega, ?_, trivial, ?_, ?_, by simp; omega, lrb⟩
    · have := World.ownsRow_made (base := w.heap.size) (e := 81) (size := 1) (w.alloc (.cells (Array.replicate 512 (.int .u8 0)) 5)) (Array.replicate 4 (.slice none 0 0)) 4 (by simp) (by unfold maxLen; omega) (by simp)
      rwa [World.size_alloc] at this
    · exact row_alloc (row_alloc R.out)
    · exact ⟨rfl, rfl, rfl, by simp; omega, fun j h1 _ => by rw [Below.heap_alloc _ _ _ (by rw [World.size_alloc]; omega), Below.heap_alloc _ _ _ h1]⟩
  case round =>
    obtain ⟨g, len, cap, next, cg, cc, cs, pr, cur, ⟨rfl, rfl, rfl, rfl⟩, h1, I⟩ := hrel
    have h2 := I.capm
    unfold maxLen at h2
    have HI := Lib.hid I
    clear I
    have hlc : len ≤ cap := by omega
    have hne : ¬ cap = len := by omega
    have hEq := eq_eof aE
    have hnil : ∀ w, (nilAhead 271 66 (.pointer (some ⟨rb, 0, none⟩)) "Read").run Tryd.prog w = .ok (some false) w := fun w => by kernel_rfl
    go_wp2
    rcases Nat.eq_zero_or_pos gk with h0 | h0
    · have h6 : (2 : Nat) ≠ rb := fun e => by have := E.out; unfold World.cell? at this; rw [e, R.out] at this; simp at this
      have cE : wr.cell? ⟨2, 0, none⟩ = some (.iface 153 (.pointer (some aE))) := (World.cell?_of_block (HI.out.st.block 2 (World.block_lt_of_cell? w _ E.out) h6)).trans E.out
      have hrd : Calls Tryd.prog 108 #[.pointer (some ⟨rb, 0, none⟩), .slice (some ⟨g, len, none⟩) (cap - len) (cap - len)] wr.drew fun e w' => e = .returned (.tuple #[.int .i64 0, .iface 153 (.pointer (some aE))]) ∧ ∃ n, w' = wr.drew.drewN n :=
        read_end (pr := pr) HI.out.rd (by have := HI.out.off; omega) cE
      have HR := Lib.hid hrd
      clear hrd
      go_region_with (first | (go_upon; refine HR.out.mono ?_; rintro e w1 ⟨rfl, n1, rfl⟩) | (refine HR.out.mono ?_; rintro e w1 ⟨rfl, n1, rfl⟩))
      refine gen_then (fun W => RdInv bs w.heap.size rb w gk W g len cap next cg cc cs pr cur ∧ W.cell? ⟨2, 0, none⟩ = some (.iface 153 (.pointer (some aE)))) ⟨HI.out.moved rfl rfl rfl rfl, cE⟩ ?_
      clear HI HR cE
      rintro W ⟨I, cE⟩
      have HI := Lib.hid I
      clear I
      by_cases hcs : cs = []
      · subst hcs
        go_wp2
        refine bodyPost_ret (v := .tuple #[.slice (some ⟨g, 0, none⟩) len cap, .nilIface]) (by simp [results, Tryd.results49, go_sem]) rfl ?_
        have ho := HI.out.off
        have e0 : chunkSum [] = 0 := rfl
        have e1 : len = bs.size := by omega
        refine ⟨g, cap, by rw [e1], by omega, HI.out.gB, ⟨cur, (0, 0), HI.out.hg, fun j hj => ?_⟩, HI.out.st⟩
        have := HI.out.bytes j (by omega)
        rwa [e0, Nat.zero_add] at this
      · have hcp : 0 < cs.length := List.length_pos_iff.2 hcs
        have hp : 0 < chunkSum cs := by
          cases cs with
          | nil => exact absurd rfl hcs
          | cons c0 r => exact HI.out.chunks.pos
        have ho := HI.out.off
        have hc0 : ¬ cs.length = 0 := by omega
        have t0 : ((cs.length : Int) == 0) = false := by simp; exact hcs
        obtain ⟨CAP, Z, hZs, hZn, hZm, hZ⟩ := zeros_made W (chunkSum cs + len) ((chunkSum cs : Int) + (len : Int)) (by omega) (by omega) (by omega)
        have hZ0 : 0 ≤ CAP := by omega
        have HZ := Lib.hid hZ
        have HCS := Lib.hid hcs
        clear hZ hcs
        go_wp2_with (at_builtin; refine Lib.wpList_append_run _ rfl _ _ _ _ rfl _ _ rfl rfl _ _ HZ.out ?_)
        go_loopg [10, 54] cs.length (fun k v i wr2 => k ≤ cs.length ∧ i = .int .i64 ((cs.length - k : Nat) : Int) ∧ wr2.ownsRow W.heap.size 5 1 v (chunkSum (cs.take (cs.length - k))) (bv bs 0 (chunkSum (cs.take (cs.length - k)))) ∧ Below W.heap.size W wr2)
        case atStart =>
          refine ⟨Nat.le_refl _, by simp, ?_, ((Below.refl _ W).alloc (Nat.le_refl _) (.cells Z 5)).trans ⟨rfl, rfl, rfl, Nat.le_refl _, fun _ _ => rfl⟩⟩
          rw [Nat.sub_self]
          exact World.ownsRow_made W Z CAP (by simp) hZm (by omega)
        case round =>
          obtain ⟨hk, rfl, hv, hb2⟩ := hrel
          obtain ⟨i, hi, hz0, hs1, hby⟩ := infoU8
          cases gk with
          | zero =>
            rw [Nat.sub_zero, List.take_length] at hv
            have hch : ChunkAt bs wr g len (chunkSum cs) := (show ChunkAt bs W g len (chunkSum cs) from ⟨cur, HI.out.hg, by have := HI.out.capc; omega, HI.out.bytes⟩).of_block (hb2.block g (lt_of_block HI.out.hg))
            have hnw := hch.news
            have hbs := hb2.size
            have HV := Lib.hid hv
            have HNW := Lib.hid hnw
            have HB2 := Lib.hid hb2
            clear hv hnw hb2 hch
            go_wp2_with (at_builtin; refine wpList_append_own_at _ rfl _ _ 81 rfl W.heap.size 5 i _ 1 1 Tryd.underlying81 hi hz0 hs1 hby rfl (by decide) _ (chunkSum cs) (bv bs 0 (chunkSum cs)) rfl HV.out ⟨g, 0, none⟩ len cap (bv bs (chunkSum cs) len) rfl (by rw [bv_len, Nat.mul_one]) HNW.out (bv_one _ _ _) (by unfold maxLen; omega) (by omega) hbs ?_; intro v' w5 hown5 hgr5 _ _)
            refine bodyPost_ret (v := .tuple #[v', .nilIface]) (by simp [results, Tryd.results49, go_sem]) rfl ?_
            have e1 : chunkSum cs + len = bs.size := by omega
            have e2 : bv bs 0 (chunkSum cs) ++ bv bs (chunkSum cs) len = bv bs 0 bs.size := by rw [← e1, bv_add, Nat.zero_add]
            rw [e2, e1] at hown5
            obtain ⟨bb, cap5, rfl, hc5, hB5, hb5⟩ := bytesAt_of_own hown5 (by omega)
            exact ⟨bb, cap5, rfl, hc5, Nat.le_trans HI.out.sz hB5, hb5, HI.out.st.below (below_grown HB2.out HV.out hgr5 hbs) HI.out.sz⟩
          | succ k =>
            obtain ⟨c, hc⟩ : ∃ c, cs[cs.length - (k + 1)]? = some c := ⟨_, List.getElem?_eq_getElem (by omega)⟩
            obtain ⟨hcB, hc0', hcA⟩ := HI.out.chunks.at _ c hc
            rw [Nat.zero_add] at hcA
            have hcw := (hcA.of_block (hb2.block _ hcA.lt)).news
            have hle1 := chunkSum_take_le cs (cs.length - k)
            have hsu := chunkSum_take_succ cs (cs.length - (k + 1)) c hc
            rw [show cs.length - (k + 1) + 1 = cs.length - k from by omega] at hsu
            have hbs := hb2.size
            have hl63 : cs.length ≤ 9223372036854775807 := by
              rcases HI.out.own.2 with ⟨_, hn⟩ | ⟨_, _, _, _, _, _, hn, hm, _⟩
              · omega
              · unfold maxLen at hm; omega
            have hw1 : wrap64 (((cs.length - (k + 1) : Nat) : Int) + 1) = ((cs.length - k : Nat) : Int) := by rw [IntWalk.wrap64_in _ ⟨by omega, by omega⟩]; omega
            have hcell : wr.cell? ⟨cg, cs.length - (k + 1), none⟩ = some (.slice (some ⟨c.1, 0, none⟩) c.2.1 c.2.2) := by
              have h0 := HI.out.own.cells (g := cg) rfl (cs.length - (k + 1)) (chunkVal c) (by rw [List.getElem?_map, hc]; rfl)
              rw [add0] at h0
              have hl := World.block_lt_of_cell? W _ h0
              exact (hb2.cell (p := ⟨cg, cs.length - (k + 1), none⟩) hl).trans h0
            have HV := Lib.hid hv
            have HNW := Lib.hid hcw
            have HB2 := Lib.hid hb2
            clear hv hcw hb2 hcA
            go_wp2_with (at_builtin; refine wpList_append_own_at _ rfl _ _ 81 rfl W.heap.size 5 i _ 1 1 Tryd.underlying81 hi hz0 hs1 hby rfl (by decide) _ _ _ rfl HV.out ⟨c.1, 0, none⟩ c.2.1 c.2.2 _ rfl (by rw [bv_len, Nat.mul_one]) HNW.out (bv_one _ _ _) (by unfold maxLen; omega) (by omega) hbs ?_; intro v' w5 hown5 hgr5 _ _)
            go_roundg k
            case measure => omega
            case rel =>
              refine ⟨by omega, congrArg _ (by omega), ?_, below_grown HB2.out HV.out hgr5 hbs⟩
              rw [hsu, bv_add, Nat.zero_add]
              exact hown5
    · obtain ⟨kk, hkk⟩ : ∃ kk, Nat.min (bs.size - (chunkSum cs + len)) (cap - len) = kk := ⟨_, rfl⟩
      have ho := HI.out.off
      have hk1 : kk ≤ gk := by rw [← hkk]; exact Nat.le_trans (Nat.min_le_left _ _) (by omega)
      have hk2 : kk ≤ cap - len := by rw [← hkk]; exact Nat.min_le_right _ _
      have hk3 : 0 < kk := by rw [← hkk]; exact Nat.lt_min.2 ⟨by omega, by omega⟩
      have hrd := read_some (w := wr.drew) (o := len) (c := cap - len) HI.out.rd (by omega) (by omega) HI.out.hg hkk (by have := HI.out.capc; omega)
      have HR := Lib.hid hrd
      clear hrd
      go_region_with (first | (go_upon; refine HR.out.mono ?_; rintro e w1 ⟨rfl, q1, q2, q3, q4, q5, q6, q7⟩) | (refine HR.out.mono ?_; rintro e w1 ⟨rfl, q1, q2, q3, q4, q5, q6, q7⟩))
      have I2 := HI.out.read hk1 hk2 q1 q2 q3 q4 q5 q6 q7
      have HI2 := Lib.hid I2
      have hcap256 := HI.out.cap256
      clear HI HR I2 q1 q2 q3 q4 q5 q6 q7
      have hl2 : len + kk ≤ cap := by omega
      by_cases hroom : cap - (len + kk) < cap / 16
      · obtain ⟨i, hi, hz0, hs1, hby⟩ := info81
        have hfew := chunks_few HI2.out.chunks
        have hsz2 := HI2.out.sz
        have hn0 := HI2.out.nx0
        have hn1 := HI2.out.nx1
        have htd : (next : Int).tdiv 2 = ((next / 2 : Nat) : Int) := by rw [Int.tdiv_eq_ediv_of_nonneg (Int.natCast_nonneg _)]; omega
        have hown0 : (w1.alloc (.cells #[.slice (some ⟨g, 0, none⟩) (len + kk) cap] 81)).ownsRow w.heap.size 81 1 (.slice (some ⟨cg, 0, none⟩) cs.length cc) cs.length (cs.map chunkVal) := HI2.out.own.alloc _
        have hnews0 : ∀ j u, [chunkVal (g, len + kk, cap)][j]? = some u → (w1.alloc (.cells #[.slice (some ⟨g, 0, none⟩) (len + kk) cap] 81)).cell? ((⟨w1.heap.size, 0, none⟩ : Addr).add j) = some u := World.news_of_block (cs := #[chunkVal (g, len + kk, cap)]) (t := 81) (fr := (0, 0)) (heap_alloc_new w1 _)
        have hb0 : w.heap.size ≤ (w1.alloc (.cells #[.slice (some ⟨g, 0, none⟩) (len + kk) cap] 81)).heap.size := by rw [World.size_alloc]; omega
        have hm0 : cs.length + 1 ≤ maxLen := by unfold maxLen; omega
        have hbt0 : (cs.length + 1) * 24 ≤ 140737488355328 := by omega
        have HO0 := Lib.hid hown0
        have HN0 := Lib.hid hnews0
        have HB0 := Lib.hid hb0
        clear hown0 hnews0 hb0
        go_wp2_with (at_builtin; refine wpList_append_lies _ rfl _ _ 114 rfl w.heap.size 81 i _ 1 24 Tryd.underlying114 hi hz0 hs1 hby rfl (by decide) _ cs.length (cs.map chunkVal) rfl HO0.out ⟨w1.heap.size, 0, none⟩ 1 1 [chunkVal (g, len + kk, cap)] rfl rfl HN0.out (by simp [Value.oneCell', chunkVal]) (by decide) hm0 hbt0 HB0.out _ rfl ?_; intro cg2 cc2 w5 hown5 hgr5 hat5 hlt5; apply Hold.out)
        refine ⟨?_⟩
        obtain ⟨CAP, Z, hZs, hZn, hZm, hZ⟩ := zeros_made w5 next (next : Int) rfl (by omega) (by omega)
        have hZ0 : 0 ≤ CAP := by omega
        have HZ := Lib.hid hZ
        have HO5 := Lib.hid hown5
        have HG5 := Lib.hid hgr5
        clear hZ hown5 hgr5 hat5
        go_wp2_with (at_builtin; refine Lib.wpList_append_run _ rfl _ _ _ _ rfl _ _ rfl rfl _ _ HZ.out ?_)
        go_roundg (gk - kk)
        case measure => omega
        case rel =>
          refine ⟨w5.heap.size, 0, CAP, next + next / 2, cg2, cc2, cs ++ [(g, len + kk, cap)], -1, Z, ⟨rfl, ?_, ?_, ?_⟩, by omega, HI2.out.aside (by omega) hroom HO5.out HG5.out hZs hZn hZm rfl rfl rfl rfl⟩
          · exact congrArg _ (by omega)
          · rw [List.length_append]; rfl
          · rw [chunkSum_append]; exact congrArg _ (by simp [chunkSum])
      · go_wp2
        go_roundg (gk - kk)
        case measure => omega
        case rel => exact ⟨g, len + kk, cap, next, cg, cc, cs, -1, _, ⟨rfl, rfl, rfl, rfl⟩, by omega, HI2.out⟩

end Go.Proofs.YtplljfbbipeakaaDoor
