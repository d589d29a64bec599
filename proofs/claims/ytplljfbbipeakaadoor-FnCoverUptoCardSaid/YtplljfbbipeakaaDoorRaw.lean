/- Scanner.scanRawString, walked. -/
import Derived.Test.YtplljfbbipeakaaDoorIdent
import Derived.Test.YtplljfbbipeakaaDoorSm2
namespace Go.Proofs.YtplljfbbipeakaaDoor
open Go Go.RowKit

/-- What the return of a literal wants: the text's part from 'st' on, in the scanner's present state. -/
theorem lit_ready {B sb kb bb : Nat} {bs : ByteArray} {s : SS} {w : World} (h : Scn B sb kb bb bs s w) (st : Nat) (h1 : st < s.off - 1) :
    ∀ (m c : Nat), Calls Tryd.prog 81 #[.slice (some ⟨bb, st, none⟩) (s.off - 1 - st) c] (w.drewN m) fun e w' => e = .returned (.string (bs.extract st (s.off - 1))) ∧ (w.drewN m) = w' := fun m c => by
  have hB : BytesAt bb bs (w.drewN m) := h.mem.bytes
  have ho := h.ok.off
  have := bts_any (o := st) (n := s.off - 1 - st) (c := c) hB (by omega)
  rwa [show st + (s.off - 1 - st) = s.off - 1 from by omega] at this

set_option maxHeartbeats 1000000 in
set_option maxRecDepth 100000 in
theorem scanRaw {B sb kb bb : Nat} {bs : ByteArray} {s s' : SS} {w : World} (h : Scn B sb kb bb bs s w) (n : Nat) (h1 : s.width + 1 ≤ s.off) (hw : 1 ≤ s.width)
    (hrun : RawTo bs n s s') :
    Calls Tryd.prog 71 #[.pointer (some ⟨sb, 0, none⟩)] w
      (Left B sb kb bb bs s' (.string (bs.extract (s.off - (s.width + 1)) (s'.off - 1))) w) := by
  obtain ⟨cap, ev, tg, tc, tn, r⟩ := h.mem.open
  have hsz := h.size
  have hoff := h.ok.off
  have c4 := r.c4; have c7 := r.c7
  have hmono := hrun.off h.ok
  have HR := Lib.hid hrun
  have H := Lib.hid h
  clear r h hrun
  go_enter Tryd.func71, Tryd.ntmps71
  go_wp2_with (go_at_call 80; refine (literalStart_walk _ _ _ _ c4 c7 h1 (by omega)).mono ?_; rintro e w1 ⟨rfl, q, rfl⟩)
  go_loopg [] n (fun k wr => ∃ sj, Hid (RawTo bs k sj s') ∧ Scn B sb kb bb bs sj wr ∧ Kept B w wr)
  case atStart => exact ⟨s, HR, H.out.drewN _, (Kept.refl B w).drewN _⟩
  case round =>
    obtain ⟨sj, hR, hs, hkept⟩ := hrel
    clear c4 c7
    obtain ⟨cap1, ev1, tg1, tc1, tn1, r1⟩ := hs.mem.open
    have c8 := r1.c8
    have hok := hs.ok
    have lo := hok.lo
    cases gk with
    | zero =>
      have hE : RawEnd bs sj s' := hR.out
      have he := hok.errs
      have hof := hok.off
      have hnx := nextS_ok hok
      rcases hE with ⟨hc, rfl, hfin⟩ | ⟨hc, rfl⟩
      · have t1 : (sj.curr == 96) = false := by simp; omega
        have HS := Lib.hid hs
        have HK := Lib.hid hkept
        have HF := Lib.hid hfin
        have HN := Lib.hid hnx
        clear hs hkept r1 hok hnx hfin
        go_wp2_with (go_at_call 50; refine (next_any HS.out).mono ?_; rintro e w1 ⟨rfl, hs1, hk1⟩)
        refine (error_mem _ hs1.mem (by have := HN.out.errs; have := HN.out.off; omega)).mono ?_
        rintro e w2 ⟨rfl, hm2, hk2⟩
        have hs2 : Scn B sb kb bb bs (nextS bs sj).err w2 := ⟨hm2, HF.out, hs1.size⟩
        obtain ⟨cap2, ev2, tg2, tc2, tn2, r2⟩ := hs2.mem.open
        have HX := Lib.hid (lit_ready hs2 (s.off - (s.width + 1)) (by omega))
        have HK2 := Lib.hid ((HK.out.trans hk1).trans hk2)
        have HS2 := Lib.hid hs2
        have hof2 := hs2.ok.off
        have hcap := r2.cap
        clear c8
        have c1 := r2.c1; have c4 := r2.c4
        generalize (nextS bs sj).err = s2 at *
        clear hs1 hk1 hm2 hk2 r2 hs2
        have i0 : (s.off - (s.width + 1) : Nat) ≤ s2.off - 1 := by omega
        have i1 : (0 : Int) ≤ (s2.off : Int) - 1 := by omega
        have i2 : ((s.off - (s.width + 1) : Nat) : Int) ≤ (s2.off : Int) - 1 := by omega
        have i3 : (s2.off : Int) - 1 ≤ (cap2 : Int) := by omega
        go_wp2
        go_quiet ((go_at_call 81; exact quiet_left (HX.out _ _)))
        go_wp2
        go_ret
        exact ⟨rfl, HS2.out.drewN _, HK2.out.drewN _⟩
      · have t1 : (sj.curr == 96) = true := by simp [hc]
        have HS := Lib.hid hs
        have HK := Lib.hid hkept
        clear hs hkept r1 hok hc hnx
        go_wp2_with (go_at_call 50; refine (next_any HS.out).mono ?_; rintro e w1 ⟨rfl, hs1, hk1⟩)
        obtain ⟨cap2, ev2, tg2, tc2, tn2, r2⟩ := hs1.mem.open
        have HX := Lib.hid (lit_ready hs1 (s.off - (s.width + 1)) (by omega))
        have HK2 := Lib.hid (HK.out.trans hk1)
        have HS2 := Lib.hid hs1
        have hof2 := hs1.ok.off
        have hcap := r2.cap
        clear c8
        have c1 := r2.c1; have c4 := r2.c4
        generalize nextS bs sj = s2 at *
        clear hs1 hk1 r2
        have i0 : (s.off - (s.width + 1) : Nat) ≤ s2.off - 1 := by omega
        have i1 : (0 : Int) ≤ (s2.off : Int) - 1 := by omega
        have i2 : ((s.off - (s.width + 1) : Nat) : Int) ≤ (s2.off : Int) - 1 := by omega
        have i3 : (s2.off : Int) - 1 ≤ (cap2 : Int) := by omega
        go_quiet ((go_at_call 81; exact quiet_left (HX.out _ _)))
        go_wp2
        go_ret
        exact ⟨rfl, HS2.out.drewN _, HK2.out.drewN _⟩
    | succ k =>
      obtain ⟨⟨g1, g2⟩, hR2⟩ := hR.out
      have t1 : (sj.curr == 96) = false := by simp [g2]
      have HR2 := Lib.hid hR2
      have HS := Lib.hid hs
      have HK := Lib.hid hkept
      clear hs hkept r1 hok g2 hR2 hR
      go_wp2_with (go_at_call 50; refine (next_any HS.out).mono ?_; rintro e w1 ⟨rfl, hs1, hk1⟩)
      go_roundg k
      case measure => omega
      case rel => exact ⟨nextS bs sj, HR2, hs1, HK.out.trans hk1⟩

end Go.Proofs.YtplljfbbipeakaaDoor
