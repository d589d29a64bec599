/- Scanner.scanString, walked. -/
import Derived.Test.YtplljfbbipeakaaDoorRaw
namespace Go.Proofs.YtplljfbbipeakaaDoor
open Go Go.RowKit

set_option maxHeartbeats 4000000 in
set_option maxRecDepth 100000 in
theorem scanStr {B sb kb bb : Nat} {bs : ByteArray} {s s' : SS} {w : World} (h : Scn B sb kb bb bs s w) (n : Nat) (h1 : s.width + 1 ≤ s.off) (hw : 1 ≤ s.width)
    (hrun : StrTo bs n s s') :
    Calls Tryd.prog 70 #[.pointer (some ⟨sb, 0, none⟩)] w
      (Left B sb kb bb bs s' (.string (bs.extract (s.off - (s.width + 1)) (s'.off - 1))) w) := by
  obtain ⟨cap, ev, tg, tc, tn, r⟩ := h.mem.open
  have hsz := h.size
  have hoff := h.ok.off
  have c4 := r.c4; have c7 := r.c7
  have hmono := hrun.off h.ok
  have HR := Lib.hid hrun
  have H := Lib.hid h
  clear r h hrun
  go_enter Tryd.func70, Tryd.ntmps70
  go_wp2_with (go_at_call 80; refine (literalStart_walk _ _ _ _ c4 c7 h1 (by omega)).mono ?_; rintro e w1 ⟨rfl, q, rfl⟩)
  go_loopg [] n (fun k wr => ∃ sj, Hid (StrTo bs k sj s') ∧ Scn B sb kb bb bs sj wr ∧ Kept B w wr)
  case atStart => exact ⟨s, HR, H.out.drewN _, (Kept.refl B w).drewN _⟩
  case round =>
    obtain ⟨sj, hR, hs, hkept⟩ := hrel
    clear c4 c7
    obtain ⟨cap1, ev1, tg1, tc1, tn1, r1⟩ := hs.mem.open
    have c8 := r1.c8
    have hok := hs.ok
    have lo := hok.lo
    cases gk with
    | zero =>
      have hE : StrEnd bs sj s' := hR.out
      have he := hok.errs
      have hof := hok.off
      rcases hE with ⟨hc, rfl, hfin⟩ | ⟨hc, rfl⟩
      · have HS := Lib.hid hs
        have HK := Lib.hid hkept
        have HF := Lib.hid hfin
        clear hs hkept r1 hok hfin
        have tail : ∀ w2, Mem B sb kb bb bs sj.err w2 → Kept B wr w2 → Hid (Scn B sb kb bb bs sj.err w2 ∧ Kept B w w2) := fun w2 hm hk => ⟨⟨hm, HF.out, HS.out.size⟩, HK.out.trans hk⟩
        have HT := Lib.hid tail
        clear tail
        rcases hc with hc | hc
        · have t1 : (sj.curr == 10) = true := by simp [hc]
          clear hc
          go_wp2_with fail
          refine (error_mem _ HS.out.mem (by omega)).mono ?_
          rintro e w2 ⟨rfl, hm2, hk2⟩
          obtain ⟨hs2, hk3⟩ := (HT.out w2 hm2 hk2).out
          obtain ⟨cap2, ev2, tg2, tc2, tn2, r2⟩ := hs2.mem.open
          have HX := Lib.hid (lit_ready hs2 (s.off - (s.width + 1)) (by show _ < sj.off - 1; change s.off ≤ sj.off at hmono; omega))
          have HK2 := Lib.hid hk3
          have HS2 := Lib.hid hs2
          have hof2 := hs2.ok.off
          have hcap := r2.cap
          have i5 : s.off ≤ (sj.err).off := hmono
          clear c8
          have c1 := r2.c1; have c4 := r2.c4
          generalize sj.err = s2 at *
          clear hm2 hk2 hk3 r2 hs2
          have i0 : (s.off - (s.width + 1) : Nat) ≤ s2.off - 1 := by omega
          have i1 : (0 : Int) ≤ (s2.off : Int) - 1 := by omega
          have i2 : ((s.off - (s.width + 1) : Nat) : Int) ≤ (s2.off : Int) - 1 := by omega
          have i3 : (s2.off : Int) - 1 ≤ (cap2 : Int) := by omega
          go_wp2
          go_quiet ((go_at_call 81; exact quiet_left (HX.out _ _)))
          go_wp2
          go_ret
          exact ⟨rfl, HS2.out.drewN _, HK2.out.drewN _⟩
        · have t1 : (sj.curr == 10) = false := by simp; omega
          go_wp2_with fail
          refine (error_mem _ HS.out.mem (by omega)).mono ?_
          rintro e w2 ⟨rfl, hm2, hk2⟩
          obtain ⟨hs2, hk3⟩ := (HT.out w2 hm2 hk2).out
          obtain ⟨cap2, ev2, tg2, tc2, tn2, r2⟩ := hs2.mem.open
          have HX := Lib.hid (lit_ready hs2 (s.off - (s.width + 1)) (by show _ < sj.off - 1; change s.off ≤ sj.off at hmono; omega))
          have HK2 := Lib.hid hk3
          have HS2 := Lib.hid hs2
          have hof2 := hs2.ok.off
          have hcap := r2.cap
          have i5 : s.off ≤ (sj.err).off := hmono
          clear c8
          have c1 := r2.c1; have c4 := r2.c4
          generalize sj.err = s2 at *
          clear hm2 hk2 hk3 r2 hs2
          have i0 : (s.off - (s.width + 1) : Nat) ≤ s2.off - 1 := by omega
          have i1 : (0 : Int) ≤ (s2.off : Int) - 1 := by omega
          have i2 : ((s.off - (s.width + 1) : Nat) : Int) ≤ (s2.off : Int) - 1 := by omega
          have i3 : (s2.off : Int) - 1 ≤ (cap2 : Int) := by omega
          go_wp2
          go_quiet ((go_at_call 81; exact quiet_left (HX.out _ _)))
          go_wp2
          go_ret
          exact ⟨rfl, HS2.out.drewN _, HK2.out.drewN _⟩
      · have t0 : (sj.curr == 10) = false := by simp; omega
        have t1 : (sj.curr == 34) = true := by simp [hc]
        have t2 : (0 : Int) ≤ sj.curr := by omega
        have HS := Lib.hid hs
        have HK := Lib.hid hkept
        clear hs hkept r1 hok hc
        go_wp2_with (go_at_call 50; refine (next_any HS.out).mono ?_; rintro e w1 ⟨rfl, hs1, hk1⟩)
        obtain ⟨cap2, ev2, tg2, tc2, tn2, r2⟩ := hs1.mem.open
        have HX := Lib.hid (lit_ready hs1 (s.off - (s.width + 1)) (by omega))
        have HK2 := Lib.hid (HK.out.trans hk1)
        have HS2 := Lib.hid hs1
        have hof2 := hs1.ok.off
        have hcap := r2.cap
        clear c8
        have c1 := r2.c1; have c4 := r2.c4
        generalize nextS bs sj = s2 at *
        clear hs1 hk1 r2
        have i0 : (s.off - (s.width + 1) : Nat) ≤ s2.off - 1 := by omega
        have i1 : (0 : Int) ≤ (s2.off : Int) - 1 := by omega
        have i2 : ((s.off - (s.width + 1) : Nat) : Int) ≤ (s2.off : Int) - 1 := by omega
        have i3 : (s2.off : Int) - 1 ≤ (cap2 : Int) := by omega
        go_quiet ((go_at_call 81; exact quiet_left (HX.out _ _)))
        go_wp2
        go_ret
        exact ⟨rfl, HS2.out.drewN _, HK2.out.drewN _⟩
    | succ k =>
      obtain ⟨s1, ⟨g1, g2, g3, hG⟩, hR2⟩ := hR.out
      have t0 : (sj.curr == 10) = false := by simp [g2]
      have t1 : (sj.curr == 34) = false := by simp [g3]
      have HR2 := Lib.hid hR2
      have HS := Lib.hid hs
      have HK := Lib.hid hkept
      have he := hok.errs
      have hof := hok.off
      clear hs hkept r1 hok g2 g3 hR2 hR
      rcases hG with ⟨hc, rfl⟩ | ⟨hc, hesc, rfl⟩ | ⟨hc, hu, rfl⟩ | ⟨hc, hne, hnu, rfl, hfin⟩
      · have t2 : (sj.curr == 92) = false := by simp [hc]
        clear hc
        go_wp2_with (go_at_call 50; refine (next_any HS.out).mono ?_; rintro e w1 ⟨rfl, hs1, hk1⟩)
        go_roundg k
        case measure => omega
        case rel => exact ⟨nextS bs sj, HR2, hs1, HK.out.trans hk1⟩
      · have t2 : (sj.curr == 92) = true := by simp [hc]
        have h8 : (nextS bs sj).curr = 92 ∨ (nextS bs sj).curr = 34 ∨ (nextS bs sj).curr = 47 ∨ (nextS bs sj).curr = 98 ∨ (nextS bs sj).curr = 102 ∨ (nextS bs sj).curr = 110 ∨ (nextS bs sj).curr = 114 ∨ (nextS bs sj).curr = 116 := by simpa [isEscB] using hesc
        have H8 := Lib.hid h8
        clear hc hesc h8
        go_wp2_with fail
        refine (next_any HS.out).mono ?_
        rintro e w1 ⟨rfl, hs1, hk1⟩
        obtain ⟨cap2, ev2, tg2, tc2, tn2, r2⟩ := hs1.mem.open
        clear c8
        have c8 := r2.c8
        have HK1 := Lib.hid hk1
        have HS1 := Lib.hid hs1
        clear hs1 hk1 r2
        have HE : Hid (iterS bs 2 sj = nextS bs (nextS bs sj)) := rfl
        generalize nextS bs sj = s2 at *
        have h8 := H8.out
        clear H8
        rcases h8 with e8 | e8 | e8 | e8 | e8 | e8 | e8 | e8
        all_goals
          rw [e8] at c8
          clear e8
          go_wp2_with (go_at_call 50; refine (next_any HS1.out).mono ?_; rintro e w2 ⟨rfl, hs2, hk2⟩)
          go_roundg k
          case measure => omega
          case rel => exact ⟨_, HR2, by rw [HE.out]; exact hs2, (HK.out.trans HK1.out).trans hk2⟩
      · have t2 : (sj.curr == 92) = true := by simp [hc]
        clear hc
        go_wp2_with fail
        refine (next_any HS.out).mono ?_
        rintro e w1 ⟨rfl, hs1, hk1⟩
        obtain ⟨cap2, ev2, tg2, tc2, tn2, r2⟩ := hs1.mem.open
        clear c8
        have c8 := r2.c8
        have HK1 := Lib.hid hk1
        have HS1 := Lib.hid hs1
        clear hs1 hk1 r2
        have HE : Hid (iterS bs 5 sj = nextS bs (nextS bs (nextS bs (nextS bs (nextS bs sj))))) := rfl
        generalize nextS bs sj = s2 at *
        rw [hu] at c8
        clear hu
        go_wp2_with fail
        refine (next_any HS1.out).mono ?_
        rintro e w2 ⟨rfl, hs2, hk2⟩
        have HK2 := Lib.hid hk2; have HS2 := Lib.hid hs2; clear hs2 hk2
        go_wp2_with fail
        refine (next_any HS2.out).mono ?_
        rintro e w3 ⟨rfl, hs3, hk3⟩
        have HK3 := Lib.hid hk3; have HS3 := Lib.hid hs3; clear hs3 hk3
        go_wp2_with fail
        refine (next_any HS3.out).mono ?_
        rintro e w4 ⟨rfl, hs4, hk4⟩
        have HK4 := Lib.hid hk4; have HS4 := Lib.hid hs4; clear hs4 hk4
        go_wp2_with fail
        refine (next_any HS4.out).mono ?_
        rintro e w5 ⟨rfl, hs5, hk5⟩
        go_wp2
        go_roundg k
        case measure => omega
        case rel => exact ⟨_, HR2, by rw [HE.out]; exact hs5, ((((HK.out.trans HK1.out).trans HK2.out).trans HK3.out).trans HK4.out).trans hk5⟩
      · have t2 : (sj.curr == 92) = true := by simp [hc]
        have h8 : ¬ ((nextS bs sj).curr = 92 ∨ (nextS bs sj).curr = 34 ∨ (nextS bs sj).curr = 47 ∨ (nextS bs sj).curr = 98 ∨ (nextS bs sj).curr = 102 ∨ (nextS bs sj).curr = 110 ∨ (nextS bs sj).curr = 114 ∨ (nextS bs sj).curr = 116) := by simpa [isEscB] using hne
        have HF := Lib.hid hfin
        clear hc hne hfin
        go_wp2_with fail
        refine (next_any HS.out).mono ?_
        rintro e w1 ⟨rfl, hs1, hk1⟩
        obtain ⟨cap2, ev2, tg2, tc2, tn2, r2⟩ := hs1.mem.open
        clear c8
        have c8 := r2.c8
        have hok1 := hs1.ok
        have b1 := hok1.errs; have b2 := hok1.off
        have HK1 := Lib.hid hk1
        have HS1 := Lib.hid hs1
        clear hs1 hk1 r2 hok1
        generalize nextS bs sj = s2 at *
        have u1 : (s2.curr == 92) = false := by simp; omega
        have u2 : (s2.curr == 34) = false := by simp; omega
        have u3 : (s2.curr == 47) = false := by simp; omega
        have u4 : (s2.curr == 98) = false := by simp; omega
        have u5 : (s2.curr == 102) = false := by simp; omega
        have u6 : (s2.curr == 110) = false := by simp; omega
        have u7 : (s2.curr == 114) = false := by simp; omega
        have u8 : (s2.curr == 116) = false := by simp; omega
        have u9 : (s2.curr == 117) = false := by simp; omega
        clear h8 hnu
        go_wp2_with fail
        refine (error_mem _ HS1.out.mem (by omega)).mono ?_
        rintro e w2 ⟨rfl, hm2, hk2⟩
        have hs2 : Scn B sb kb bb bs s2.err w2 := ⟨hm2, HF.out, HS1.out.size⟩
        have HS2 := Lib.hid hs2
        have HK2 := Lib.hid hk2
        clear hm2 hk2 hs2
        go_wp2
        go_roundg k
        case measure => omega
        case rel => exact ⟨_, HR2, HS2.out, (HK.out.trans HK1.out).trans HK2.out⟩

end Go.Proofs.YtplljfbbipeakaaDoor
