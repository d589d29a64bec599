/- Scanner.scanComment, walked. -/
import Derived.Test.YtplljfbbipeakaaDoorIdent
namespace Go.Proofs.YtplljfbbipeakaaDoor
open Go Go.RowKit

set_option maxHeartbeats 1000000 in
set_option maxRecDepth 100000 in
theorem scanComment {B sb kb bb : Nat} {bs : ByteArray} {s : SS} {w : World} (h : Scn B sb kb bb bs s w) (n : Nat) (h1 : s.width + 1 ≤ s.off) (h2 : 2 ≤ s.off)
    (hrun : ∀ j, j < n → (iterS bs j s).curr ≠ 10 ∧ (iterS bs j s).curr ≠ -1) (hend : (iterS bs n s).curr = 10 ∨ (iterS bs n s).curr = -1)
    (hcr : (bs.get! ((iterS bs n s).off - 2)).toNat ≠ 13) (hpos : s.off - (s.width + 1) < (iterS bs n s).off - 1) :
    Calls Tryd.prog 69 #[.pointer (some ⟨sb, 0, none⟩)] w
      (Left B sb kb bb bs (iterS bs n s) (.string (bs.extract (s.off - (s.width + 1)) ((iterS bs n s).off - 1))) w) := by
  obtain ⟨cap, ev, tg, tc, tn, r⟩ := h.mem.open
  have hsz := h.size
  have hoff := h.ok.off
  have c4 := r.c4; have c7 := r.c7
  have hmono := iterS_off_le h.ok n
  have HR := Lib.hid hrun
  have HE := Lib.hid hend
  have HA := Lib.hid hcr
  have HP := Lib.hid hpos
  have HM := Lib.hid hmono
  have H := Lib.hid h
  clear r h hrun hend hcr hpos hmono
  go_enter Tryd.func69, Tryd.ntmps69
  go_wp2_with (go_at_call 80; refine (literalStart_walk _ _ _ _ c4 c7 h1 (by omega)).mono ?_; rintro e w1 ⟨rfl, q, rfl⟩)
  go_loopg [] n (fun k wr => k ≤ n ∧ Scn B sb kb bb bs (iterS bs (n - k) s) wr ∧ Kept B w wr)
  case atStart => exact ⟨Nat.le_refl _, by rw [Nat.sub_self]; exact H.out.drewN _, (Kept.refl B w).drewN _⟩
  case round =>
    obtain ⟨hk, hs, hkept⟩ := hrel
    clear c4 c7
    have hrw := HR.out (n - gk)
    have hok := hs.ok
    by_cases hk0 : gk = 0
    · subst hk0
      simp only [Nat.sub_zero] at hs hrw hok
      obtain ⟨cap1, ev1, tg1, tc1, tn1, r1⟩ := hs.mem.open
      have e1 := HE.out
      have a1 := HA.out
      have p1 := HP.out
      have m1 := HM.out
      generalize hsj : iterS bs n s = sj at *
      have c1 := r1.c1; have c4 := r1.c4; have c8 := r1.c8
      have hcap := r1.cap
      have ho := hok.off
      have hB : ∀ m, BytesAt bb bs (wr.drewN m) := fun m => hs.mem.bytes
      have HB := Lib.hid hB
      have hcell := hs.mem.bytes.cell (sj.off - 2) (by omega)
      obtain ⟨b, eb, hb256⟩ := byteIntOf bs (sj.off - 2)
      rw [eb] at hcell a1
      have t13 : ((b : Int) == 13) = false := by simp; omega
      have hlen : (s.off - (s.width + 1)) + (sj.off - 1 - (s.off - (s.width + 1))) ≤ bs.size := by omega
      have hx : ∀ (m c : Nat), Calls Tryd.prog 81 #[.slice (some ⟨bb, s.off - (s.width + 1), none⟩) (sj.off - 1 - (s.off - (s.width + 1))) c] (wr.drewN m) fun e w' => e = .returned (.string (bs.extract (s.off - (s.width + 1)) (sj.off - 1))) ∧ (wr.drewN m) = w' := fun m c => by
        have := bts_any (c := c) (HB.out m) hlen
        rwa [show s.off - (s.width + 1) + (sj.off - 1 - (s.off - (s.width + 1))) = sj.off - 1 from by omega] at this
      have HX := Lib.hid hx
      have HS := Lib.hid hs
      have HK := Lib.hid hkept
      have HJ := Lib.hid hsj
      have E1 := Lib.hid e1
      have g1 : (1 : Int) < (sj.off : Int) := by omega
      have g2 : decide (1 < sj.off) = true := by simp; omega
      have g3 : (0 : Int) ≤ (sj.off : Int) - 2 := by omega
      have g4 : (sj.off : Int) - 2 < (bs.size : Int) := by omega
      clear hs r1 hsj e1 hB hx hkept hrw hok eb
      rcases E1.out with e | e
      · have t1 : (sj.curr != 10) = false := by simp [e]
        clear e
        go_wp2
        go_quiet (fail)
        go_wp2_with (go_at_call 81; refine (HX.out _ _).mono ?_; rintro e w' ⟨rfl, rfl⟩)
        go_ret
        exact ⟨rfl, HS.out.drewN _, HK.out.drewN _⟩
      · have t1 : (sj.curr != 10) = true := by simp [e]
        have t2 : (sj.curr != -1) = false := by simp [e]
        clear e
        go_wp2
        go_quiet (fail)
        go_wp2_with (go_at_call 81; refine (HX.out _ _).mono ?_; rintro e w' ⟨rfl, rfl⟩)
        go_ret
        exact ⟨rfl, HS.out.drewN _, HK.out.drewN _⟩
    · have hj := hrw (by omega)
      have e0 : n - (gk - 1) = (n - gk) + 1 := by omega
      have HN := Lib.hid (show iterS bs (n - (gk - 1)) s = nextS bs (iterS bs (n - gk) s) by rw [e0]; rfl)
      clear hrw e0
      generalize iterS bs (n - gk) s = sj at *
      obtain ⟨cap1, ev1, tg1, tc1, tn1, r1⟩ := hs.mem.open
      have c8 := r1.c8
      have t1 : (sj.curr != 10) = true := by simp [hj.1]
      have t2 : (sj.curr != -1) = true := by simp [hj.2]
      have HS := Lib.hid hs
      have HK := Lib.hid hkept
      clear hs hkept r1 hok hj
      go_wp2_with (go_at_call 50; refine (next_any HS.out).mono ?_; rintro e w1 ⟨rfl, hs1, hk1⟩)
      go_roundg (gk - 1)
      case measure => omega
      case rel => exact ⟨by omega, by rw [HN.out]; exact hs1, HK.out.trans hk1⟩

end Go.Proofs.YtplljfbbipeakaaDoor
