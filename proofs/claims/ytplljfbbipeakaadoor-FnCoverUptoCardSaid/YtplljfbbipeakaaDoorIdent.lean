/- Scanner.scanIdentifier, walked. -/
import Derived.Test.YtplljfbbipeakaaDoorBts
import Derived.Deep.LoopGhost
namespace Go.Proofs.YtplljfbbipeakaaDoor
open Go Go.RowKit

theorem Mem.drewN {B sb kb bb : Nat} {bs : ByteArray} {s : SS} {w : World} (h : Mem B sb kb bb bs s w) (n : Nat) : Mem B sb kb bb bs s (w.drewN n) := ⟨h.b6, h.bw, h.bsb, h.tabs, h.bytes, h.rows⟩
theorem Scn.drewN {B sb kb bb : Nat} {bs : ByteArray} {s : SS} {w : World} (h : Scn B sb kb bb bs s w) (n : Nat) : Scn B sb kb bb bs s (w.drewN n) := ⟨h.mem.drewN n, h.ok, h.size⟩

theorem quiet_left {P : Program} {f : FuncId} {args : Array Value} {w : World} {n : Nat} {v : Value}
    (h : Calls P f args (w.drewN n) fun e w' => e = .returned v ∧ w.drewN n = w') : Calls P f args (w.drewN n) fun e w'' => e = .returned v ∧ ∃ m, w'' = w.drewN m :=
  h.mono fun _ _ ⟨he, hm⟩ => ⟨he, n, hm.symm⟩

set_option maxHeartbeats 1000000 in
set_option maxRecDepth 100000 in
theorem scanIdent {B sb kb bb : Nat} {bs : ByteArray} {s : SS} {w : World} (h : Scn B sb kb bb bs s w) (n : Nat) (h1 : 1 ≤ s.off)
    (hrun : ∀ j, j < n → isIdB (iterS bs j s).curr = true) (hend : isIdB (iterS bs n s).curr = false) (hasc : (iterS bs n s).curr < 128) (hpos : s.off < (iterS bs n s).off) :
    Calls Tryd.prog 66 #[.pointer (some ⟨sb, 0, none⟩)] w
      (Left B sb kb bb bs (iterS bs n s) (.string (bs.extract (s.off - 1) ((iterS bs n s).off - 1))) w) := by
  obtain ⟨cap, ev, tg, tc, tn, r⟩ := h.mem.open
  have hsz := h.size
  have hoff := h.ok.off
  have c4 := r.c4
  have HR := Lib.hid hrun
  have HE := Lib.hid hend
  have HA := Lib.hid hasc
  have HP := Lib.hid hpos
  have H := Lib.hid h
  clear r h hrun hend hasc hpos
  go_enter Tryd.func66, Tryd.ntmps66
  go_wp2
  go_loopg [] n (fun k wr => k ≤ n ∧ Scn B sb kb bb bs (iterS bs (n - k) s) wr ∧ Kept B w wr)
  case atStart => exact ⟨Nat.le_refl _, by rw [Nat.sub_self]; exact H.out, Kept.refl B w⟩
  case round =>
    obtain ⟨hk, hs, hkept⟩ := hrel
    clear c4
    have hrw := HR.out (n - gk)
    have hok := hs.ok
    by_cases hk0 : gk = 0
    · subst hk0
      simp only [Nat.sub_zero] at hs hrw hok
      obtain ⟨cap1, ev1, tg1, tc1, tn1, r1⟩ := hs.mem.open
      have e1 := HE.out
      have a1 := HA.out
      have p1 := HP.out
      generalize hsj : iterS bs n s = sj at *
      have c1 := r1.c1; have c4 := r1.c4; have c8 := r1.c8
      have hcap := r1.cap
      have ho := hok.off
      have lo := hok.lo; have hi := hok.hi
      have e2 : isLetB sj.curr = false := by simp [isIdB] at e1; exact e1.1
      have e3 : isDecB sj.curr = false := by simp [isIdB] at e1; exact e1.2
      have hB : ∀ m, BytesAt bb bs (wr.drewN m) := fun m => hs.mem.bytes
      have HB := Lib.hid hB
      have hlen : (s.off - 1) + (sj.off - 1 - (s.off - 1)) ≤ bs.size := by omega
      have hx : ∀ (m c : Nat), Calls Tryd.prog 81 #[.slice (some ⟨bb, s.off - 1, none⟩) (sj.off - 1 - (s.off - 1)) c] (wr.drewN m) fun e w' => e = .returned (.string (bs.extract (s.off - 1) (sj.off - 1))) ∧ (wr.drewN m) = w' := fun m c => by
        have := bts_any (c := c) (HB.out m) hlen
        rwa [show s.off - 1 + (sj.off - 1 - (s.off - 1)) = sj.off - 1 from by omega] at this
      have HX := Lib.hid hx
      have HS := Lib.hid hs
      have HK := Lib.hid hkept
      have HJ := Lib.hid hsj
      clear hs r1 hsj e1 hB hx hkept hrw hok
      have i0 : (0 : Int) ≤ (s.off : Int) - 1 := by omega
      have i1 : (s.off : Int) - 1 ≤ (sj.off : Int) - 1 := by omega
      have i2 : (sj.off : Int) - 1 ≤ (cap1 : Int) := by omega
      go_wp2_with (first | (go_at_call 65; refine (isLetter_any _ _ lo hi).mono ?_; rintro e w' ⟨rfl, rfl⟩) | (go_at_call 84; refine (isDigit_ascii _ _ a1).mono ?_; rintro e w' ⟨rfl, rfl⟩))
      go_quiet ((go_at_call 81; exact quiet_left (HX.out _ _)))
      go_wp2
      go_ret
      exact ⟨rfl, HS.out.drewN _, HK.out.drewN _⟩
    · have hj := hrw (by omega)
      have e0 : n - (gk - 1) = (n - gk) + 1 := by omega
      have HN := Lib.hid (show iterS bs (n - (gk - 1)) s = nextS bs (iterS bs (n - gk) s) by rw [e0]; rfl)
      clear hrw e0
      generalize iterS bs (n - gk) s = sj at *
      obtain ⟨cap1, ev1, tg1, tc1, tn1, r1⟩ := hs.mem.open
      have c8 := r1.c8
      have lo := hok.lo; have hi := hok.hi
      have HS := Lib.hid hs
      have HK := Lib.hid hkept
      clear hs hkept r1 hok
      by_cases e2 : isLetB sj.curr = true
      · clear hj
        go_wp2_with (first | (go_at_call 65; refine (isLetter_any _ _ lo hi).mono ?_; rintro e w' ⟨rfl, rfl⟩) | (go_at_call 50; refine (next_any HS.out).mono ?_; rintro e w1 ⟨rfl, hs1, hk1⟩))
        go_roundg (gk - 1)
        case measure => omega
        case rel => exact ⟨by omega, by rw [HN.out]; exact hs1, HK.out.trans hk1⟩
      · have e2 : isLetB sj.curr = false := by simpa using e2
        have e3 : isDecB sj.curr = true := by simpa [isIdB, e2] using hj
        have hc : sj.curr < 128 := by simp [isDecB] at e3; omega
        clear hj
        go_wp2_with (first | (go_at_call 65; refine (isLetter_any _ _ lo hi).mono ?_; rintro e w' ⟨rfl, rfl⟩) | (go_at_call 84; refine (isDigit_ascii _ _ hc).mono ?_; rintro e w' ⟨rfl, rfl⟩) | (go_at_call 50; refine (next_any HS.out).mono ?_; rintro e w1 ⟨rfl, hs1, hk1⟩))
        go_roundg (gk - 1)
        case measure => omega
        case rel => exact ⟨by omega, by rw [HN.out]; exact hs1, HK.out.trans hk1⟩

end Go.Proofs.YtplljfbbipeakaaDoor
