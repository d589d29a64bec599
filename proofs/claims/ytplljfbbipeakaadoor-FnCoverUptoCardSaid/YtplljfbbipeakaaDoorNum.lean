/- Scanner.scanNumber, walked: a whole number; with a fraction; with an exponent; with both. (printed by wip/gen_num.py) -/
import Derived.Test.YtplljfbbipeakaaDoorRaw
namespace Go.Proofs.YtplljfbbipeakaaDoor
open Go Go.RowKit

set_option maxHeartbeats 2000000 in
set_option maxRecDepth 100000 in
theorem scanNum {B sb kb bb : Nat} {bs : ByteArray} {s : SS} {w : World} (h : Scn B sb kb bb bs s w) (h1 : 1 ≤ s.off) (n1 : Nat) (A1 : (∀ j, j < n1 → isDecB (iterS bs (0 + j) s).curr = true) ∧ isDecB (iterS bs (0 + n1) s).curr = false ∧ 1 ≤ n1) (D : (iterS bs n1 s).curr ≠ 46) (X : (iterS bs n1 s).curr ≠ 69 ∧ (iterS bs n1 s).curr ≠ 101) (L : isLetB (iterS bs n1 s).curr = false) (hpos : s.off < (iterS bs n1 s).off) :
    Calls Tryd.prog 68 #[.pointer (some ⟨sb, 0, none⟩)] w
      (Left B sb kb bb bs (iterS bs n1 s) (.string (bs.extract (s.off - 1) ((iterS bs n1 s).off - 1))) w) := by
  obtain ⟨cap, ev, tg, tc, tn, r⟩ := h.mem.open
  have hsz := h.size
  have hoff := h.ok.off
  have c4 := r.c4; have c8 := r.c8
  have HA1 := Lib.hid A1
  have HD := Lib.hid D
  have HX := Lib.hid X
  have HL := Lib.hid L
  have Hhpos := Lib.hid hpos
  have H := Lib.hid h
  have t46 : (s.curr != 46) = true := by
    have this : isDecB s.curr = true := (HA1.out).1 0 (by have := (HA1.out).2.2; omega)
    simp [isDecB] at this
    simp; omega
  clear r h A1 D X L hpos
  go_enter Tryd.func68, Tryd.ntmps68
  go_wp2
  go_loopg [] n1 (fun k wr => k ≤ n1 ∧ Scn B sb kb bb bs (iterS bs (0 + (n1 - k)) s) wr ∧ Kept B w wr)
  case atStart => exact ⟨Nat.le_refl _, by rw [Nat.sub_self]; exact H.out, Kept.refl B w⟩
  case round =>
    obtain ⟨hk, hs, hkept⟩ := hrel
    clear c4 c8
    have hrw := (HA1.out).1 (n1 - gk)
    have hok := hs.ok
    by_cases hk0 : gk = 0
    · subst hk0
      simp only [Nat.sub_zero] at hs hrw hok
      have e3 := (HA1.out).2.1
      clear hrw
      simp only [Nat.zero_add] at hs hok e3
      have d0 : ((iterS bs n1 s).curr == 46) = false := by simpa using HD.out
      have HX0 := Lib.hid HX.out
      clear HX
      have l1 := HL.out
      have p1 := Hhpos.out
      generalize iterS bs n1 s = sz at *
      obtain ⟨cap2, ev2, tg2, tc2, tn2, r2⟩ := hs.mem.open
      have c1 := r2.c1; have c4 := r2.c4; have c8 := r2.c8
      have hcap := r2.cap
      have ho2 := hs.ok.off
      have lo := hs.ok.lo; have hi := hs.ok.hi
      have HX := Lib.hid (lit_ready hs (s.off - 1) (by omega))
      have HS := Lib.hid hs
      have HK := Lib.hid hkept
      clear hs r2 hkept hok
      have i0 : (0 : Int) ≤ (s.off : Int) - 1 := by omega
      have i1 : (s.off : Int) - 1 ≤ (sz.off : Int) - 1 := by omega
      have i2 : (sz.off : Int) - 1 ≤ (cap2 : Int) := by omega
      have x1 : (lowI sz.curr == 101) = false := by
        have := low_e sz.curr lo hi
        have q := HX0.out
        simp; omega
      go_wp2_with (first | (go_at_call 67; refine (isDecimal_any _ _).mono ?_; rintro e w' ⟨rfl, rfl⟩) | (go_at_call 65; refine (isLetter_any _ _ lo hi).mono ?_; rintro e w' ⟨rfl, rfl⟩) | (go_at_call 83; refine (lower_any _ _).mono ?_; rintro e w' ⟨rfl, rfl⟩))
      go_quiet ((go_at_call 81; exact quiet_left (HX.out _ _)))
      go_wp2
      go_ret
      exact ⟨rfl, HS.out.drewN _, HK.out.drewN _⟩
    · have hj := hrw (by omega)
      have e0 : 0 + (n1 - (gk - 1)) = (0 + (n1 - gk)) + 1 := by omega
      have HN := Lib.hid (show iterS bs (0 + (n1 - (gk - 1))) s = nextS bs (iterS bs (0 + (n1 - gk)) s) by rw [e0]; rfl)
      clear hrw e0
      generalize iterS bs (0 + (n1 - gk)) s = sj at *
      obtain ⟨cap1, ev1, tg1, tc1, tn1, r1⟩ := hs.mem.open
      have c8 := r1.c8
      have HS := Lib.hid hs
      have HK := Lib.hid hkept
      clear hs hkept r1 hok
      go_wp2_with (first | (go_at_call 67; refine (isDecimal_any _ _).mono ?_; rintro e w' ⟨rfl, rfl⟩) | (go_at_call 50; refine (next_any HS.out).mono ?_; rintro e w1 ⟨rfl, hs1, hk1⟩))
      go_roundg (gk - 1)
      case measure => omega
      case rel => exact ⟨by omega, by rw [HN.out]; exact hs1, HK.out.trans hk1⟩

set_option maxHeartbeats 2000000 in
set_option maxRecDepth 100000 in
theorem scanNumE {B sb kb bb : Nat} {bs : ByteArray} {s : SS} {w : World} (h : Scn B sb kb bb bs s w) (h1 : 1 ≤ s.off) (n1 : Nat) (n3 : Nat) (A1 : (∀ j, j < n1 → isDecB (iterS bs (0 + j) s).curr = true) ∧ isDecB (iterS bs (0 + n1) s).curr = false ∧ 1 ≤ n1) (D : (iterS bs n1 s).curr ≠ 46) (X : (iterS bs n1 s).curr = 69 ∨ (iterS bs n1 s).curr = 101) (G : (iterS bs (n1 + 1) s).curr = 43 ∨ (iterS bs (n1 + 1) s).curr = 45) (A3 : (∀ j, j < n3 → isDecB (iterS bs (n1 + 2 + j) s).curr = true) ∧ isDecB (iterS bs (n1 + 2 + n3) s).curr = false ∧ 1 ≤ n3) (L : isLetB (iterS bs (n1 + 2 + n3) s).curr = false) (hpos : s.off < (iterS bs (n1 + 2 + n3) s).off) :
    Calls Tryd.prog 68 #[.pointer (some ⟨sb, 0, none⟩)] w
      (Left B sb kb bb bs (iterS bs (n1 + 2 + n3) s) (.string (bs.extract (s.off - 1) ((iterS bs (n1 + 2 + n3) s).off - 1))) w) := by
  obtain ⟨cap, ev, tg, tc, tn, r⟩ := h.mem.open
  have hsz := h.size
  have hoff := h.ok.off
  have c4 := r.c4; have c8 := r.c8
  have HA1 := Lib.hid A1
  have HD := Lib.hid D
  have HX := Lib.hid X
  have HL := Lib.hid L
  have Hhpos := Lib.hid hpos
  have HA3 := Lib.hid A3
  have HG := Lib.hid G
  have H := Lib.hid h
  have t46 : (s.curr != 46) = true := by
    have this : isDecB s.curr = true := (HA1.out).1 0 (by have := (HA1.out).2.2; omega)
    simp [isDecB] at this
    simp; omega
  clear r h A1 D X L hpos A3 G
  go_enter Tryd.func68, Tryd.ntmps68
  go_wp2
  go_loopg [] n1 (fun k wr => k ≤ n1 ∧ Scn B sb kb bb bs (iterS bs (0 + (n1 - k)) s) wr ∧ Kept B w wr)
  case atStart => exact ⟨Nat.le_refl _, by rw [Nat.sub_self]; exact H.out, Kept.refl B w⟩
  case round =>
    obtain ⟨hk, hs, hkept⟩ := hrel
    clear c4 c8
    have hrw := (HA1.out).1 (n1 - gk)
    have hok := hs.ok
    by_cases hk0 : gk = 0
    · subst hk0
      simp only [Nat.sub_zero] at hs hrw hok
      have e3 := (HA1.out).2.1
      clear hrw
      simp only [Nat.zero_add] at hs hok e3
      have d0 : ((iterS bs n1 s).curr == 46) = false := by simpa using HD.out
      have x0 := HX.out
      have HG2 : Hid ((nextS bs (iterS bs n1 s)).curr = 43 ∨ (nextS bs (iterS bs n1 s)).curr = 45) := HG.out
      have HM : Hid (iterS bs (n1 + 2) s = nextS bs (nextS bs (iterS bs n1 s))) := rfl
      generalize hsz1 : iterS bs n1 s = sz at *
      have HZ1 := Lib.hid hsz1
      clear hsz1
      obtain ⟨cap2, ev2, tg2, tc2, tn2, r2⟩ := hs.mem.open
      have c4 := r2.c4; have c8 := r2.c8
      have lo := hs.ok.lo; have hi := hs.ok.hi
      have x1 : (lowI sz.curr == 101) = true := by
        have := low_e sz.curr lo hi
        simp; omega
      have HS := Lib.hid hs
      have HK := Lib.hid hkept
      clear hs r2 hkept hok x0
      go_wp2_with (first | (go_at_call 67; refine (isDecimal_any _ _).mono ?_; rintro e w' ⟨rfl, rfl⟩) | (go_at_call 83; refine (lower_any _ _).mono ?_; rintro e w' ⟨rfl, rfl⟩) | (go_at_call 50; fail))
      refine (next_any HS.out).mono ?_
      rintro e w1 ⟨rfl, hs1, hk1⟩
      obtain ⟨cap3, ev3, tg3, tc3, tn3, r3⟩ := hs1.mem.open
      clear c4 c8
      have c8 := r3.c8
      have HS1 := Lib.hid hs1
      have HK1 := Lib.hid hk1
      clear hs1 hk1 r3
      have g0 := HG2.out
      clear HG2
      generalize nextS bs sz = sy at *
      rcases g0 with g0 | g0
      · rw [g0] at c8
        clear g0
        go_wp2_with (go_at_call 50; refine (next_any HS1.out).mono ?_; rintro e w2 ⟨rfl, hs2, hk2⟩)
        go_loopg [5] n3 (fun k v wr => (v = .bool true ∨ (v = .bool false ∧ k = n3)) ∧ k ≤ n3 ∧ Scn B sb kb bb bs (iterS bs ((n1 + 2) + (n3 - k)) s) wr ∧ Kept B w wr)
        case atStart => exact ⟨Or.inr ⟨rfl, rfl⟩, Nat.le_refl _, by rw [Nat.sub_self, Nat.add_zero, HM.out]; exact hs2, (HK.out.trans HK1.out).trans hk2⟩
        case round =>
          obtain ⟨hv, hk, hs, hkept⟩ := hrel
          clear c8
          have hrw := (HA3.out).1 (n3 - gk)
          have hok := hs.ok
          by_cases hk0 : gk = 0
          · subst hk0
            rcases hv with rfl | ⟨rfl, h'⟩
            rotate_left
            · exfalso; have := (HA3.out).2.2; omega
            simp only [Nat.sub_zero] at hs hrw hok
            have e3 := (HA3.out).2.1
            clear hrw
            have l1 := HL.out
            have p1 := Hhpos.out
            generalize iterS bs (n1 + 2 + n3) s = sz at *
            obtain ⟨cap2, ev2, tg2, tc2, tn2, r2⟩ := hs.mem.open
            have c1 := r2.c1; have c4 := r2.c4; have c8 := r2.c8
            have hcap := r2.cap
            have ho2 := hs.ok.off
            have lo := hs.ok.lo; have hi := hs.ok.hi
            have HX := Lib.hid (lit_ready hs (s.off - 1) (by omega))
            have HS := Lib.hid hs
            have HK := Lib.hid hkept
            clear hs r2 hkept hok
            have i0 : (0 : Int) ≤ (s.off : Int) - 1 := by omega
            have i1 : (s.off : Int) - 1 ≤ (sz.off : Int) - 1 := by omega
            have i2 : (sz.off : Int) - 1 ≤ (cap2 : Int) := by omega
            skip
            go_wp2_with (first | (go_at_call 67; refine (isDecimal_any _ _).mono ?_; rintro e w' ⟨rfl, rfl⟩) | (go_at_call 65; refine (isLetter_any _ _ lo hi).mono ?_; rintro e w' ⟨rfl, rfl⟩) | (go_at_call 83; refine (lower_any _ _).mono ?_; rintro e w' ⟨rfl, rfl⟩))
            go_quiet ((go_at_call 81; exact quiet_left (HX.out _ _)))
            go_wp2
            go_ret
            exact ⟨rfl, HS.out.drewN _, HK.out.drewN _⟩
          · have hj := hrw (by omega)
            have e0 : (n1 + 2) + (n3 - (gk - 1)) = ((n1 + 2) + (n3 - gk)) + 1 := by omega
            have HN := Lib.hid (show iterS bs ((n1 + 2) + (n3 - (gk - 1))) s = nextS bs (iterS bs ((n1 + 2) + (n3 - gk)) s) by rw [e0]; rfl)
            clear hrw e0
            generalize iterS bs ((n1 + 2) + (n3 - gk)) s = sj at *
            obtain ⟨cap1, ev1, tg1, tc1, tn1, r1⟩ := hs.mem.open
            have c8 := r1.c8
            have HS := Lib.hid hs
            have HK := Lib.hid hkept
            clear hs hkept r1 hok hv
            go_wp2_with (first | (go_at_call 67; refine (isDecimal_any _ _).mono ?_; rintro e w' ⟨rfl, rfl⟩) | (go_at_call 50; refine (next_any HS.out).mono ?_; rintro e w1 ⟨rfl, hs1, hk1⟩))
            go_roundg (gk - 1)
            case measure => omega
            case rel => exact ⟨Or.inl rfl, by omega, by rw [HN.out]; exact hs1, HK.out.trans hk1⟩
      · rw [g0] at c8
        clear g0
        go_wp2_with (go_at_call 50; refine (next_any HS1.out).mono ?_; rintro e w2 ⟨rfl, hs2, hk2⟩)
        go_loopg [5] n3 (fun k v wr => (v = .bool true ∨ (v = .bool false ∧ k = n3)) ∧ k ≤ n3 ∧ Scn B sb kb bb bs (iterS bs ((n1 + 2) + (n3 - k)) s) wr ∧ Kept B w wr)
        case atStart => exact ⟨Or.inr ⟨rfl, rfl⟩, Nat.le_refl _, by rw [Nat.sub_self, Nat.add_zero, HM.out]; exact hs2, (HK.out.trans HK1.out).trans hk2⟩
        case round =>
          obtain ⟨hv, hk, hs, hkept⟩ := hrel
          clear c8
          have hrw := (HA3.out).1 (n3 - gk)
          have hok := hs.ok
          by_cases hk0 : gk = 0
          · subst hk0
            rcases hv with rfl | ⟨rfl, h'⟩
            rotate_left
            · exfalso; have := (HA3.out).2.2; omega
            simp only [Nat.sub_zero] at hs hrw hok
            have e3 := (HA3.out).2.1
            clear hrw
            have l1 := HL.out
            have p1 := Hhpos.out
            generalize iterS bs (n1 + 2 + n3) s = sz at *
            obtain ⟨cap2, ev2, tg2, tc2, tn2, r2⟩ := hs.mem.open
            have c1 := r2.c1; have c4 := r2.c4; have c8 := r2.c8
            have hcap := r2.cap
            have ho2 := hs.ok.off
            have lo := hs.ok.lo; have hi := hs.ok.hi
            have HX := Lib.hid (lit_ready hs (s.off - 1) (by omega))
            have HS := Lib.hid hs
            have HK := Lib.hid hkept
            clear hs r2 hkept hok
            have i0 : (0 : Int) ≤ (s.off : Int) - 1 := by omega
            have i1 : (s.off : Int) - 1 ≤ (sz.off : Int) - 1 := by omega
            have i2 : (sz.off : Int) - 1 ≤ (cap2 : Int) := by omega
            skip
            go_wp2_with (first | (go_at_call 67; refine (isDecimal_any _ _).mono ?_; rintro e w' ⟨rfl, rfl⟩) | (go_at_call 65; refine (isLetter_any _ _ lo hi).mono ?_; rintro e w' ⟨rfl, rfl⟩) | (go_at_call 83; refine (lower_any _ _).mono ?_; rintro e w' ⟨rfl, rfl⟩))
            go_quiet ((go_at_call 81; exact quiet_left (HX.out _ _)))
            go_wp2
            go_ret
            exact ⟨rfl, HS.out.drewN _, HK.out.drewN _⟩
          · have hj := hrw (by omega)
            have e0 : (n1 + 2) + (n3 - (gk - 1)) = ((n1 + 2) + (n3 - gk)) + 1 := by omega
            have HN := Lib.hid (show iterS bs ((n1 + 2) + (n3 - (gk - 1))) s = nextS bs (iterS bs ((n1 + 2) + (n3 - gk)) s) by rw [e0]; rfl)
            clear hrw e0
            generalize iterS bs ((n1 + 2) + (n3 - gk)) s = sj at *
            obtain ⟨cap1, ev1, tg1, tc1, tn1, r1⟩ := hs.mem.open
            have c8 := r1.c8
            have HS := Lib.hid hs
            have HK := Lib.hid hkept
            clear hs hkept r1 hok hv
            go_wp2_with (first | (go_at_call 67; refine (isDecimal_any _ _).mono ?_; rintro e w' ⟨rfl, rfl⟩) | (go_at_call 50; refine (next_any HS.out).mono ?_; rintro e w1 ⟨rfl, hs1, hk1⟩))
            go_roundg (gk - 1)
            case measure => omega
            case rel => exact ⟨Or.inl rfl, by omega, by rw [HN.out]; exact hs1, HK.out.trans hk1⟩
    · have hj := hrw (by omega)
      have e0 : 0 + (n1 - (gk - 1)) = (0 + (n1 - gk)) + 1 := by omega
      have HN := Lib.hid (show iterS bs (0 + (n1 - (gk - 1))) s = nextS bs (iterS bs (0 + (n1 - gk)) s) by rw [e0]; rfl)
      clear hrw e0
      generalize iterS bs (0 + (n1 - gk)) s = sj at *
      obtain ⟨cap1, ev1, tg1, tc1, tn1, r1⟩ := hs.mem.open
      have c8 := r1.c8
      have HS := Lib.hid hs
      have HK := Lib.hid hkept
      clear hs hkept r1 hok
      go_wp2_with (first | (go_at_call 67; refine (isDecimal_any _ _).mono ?_; rintro e w' ⟨rfl, rfl⟩) | (go_at_call 50; refine (next_any HS.out).mono ?_; rintro e w1 ⟨rfl, hs1, hk1⟩))
      go_roundg (gk - 1)
      case measure => omega
      case rel => exact ⟨by omega, by rw [HN.out]; exact hs1, HK.out.trans hk1⟩

set_option maxHeartbeats 2000000 in
set_option maxRecDepth 100000 in
theorem scanNumF {B sb kb bb : Nat} {bs : ByteArray} {s : SS} {w : World} (h : Scn B sb kb bb bs s w) (h1 : 1 ≤ s.off) (n1 : Nat) (n2 : Nat) (A1 : (∀ j, j < n1 → isDecB (iterS bs (0 + j) s).curr = true) ∧ isDecB (iterS bs (0 + n1) s).curr = false ∧ 1 ≤ n1) (D : (iterS bs n1 s).curr = 46) (A2 : (∀ j, j < n2 → isDecB (iterS bs (n1 + 1 + j) s).curr = true) ∧ isDecB (iterS bs (n1 + 1 + n2) s).curr = false ∧ 1 ≤ n2) (X : (iterS bs (n1 + 1 + n2) s).curr ≠ 69 ∧ (iterS bs (n1 + 1 + n2) s).curr ≠ 101) (L : isLetB (iterS bs (n1 + 1 + n2) s).curr = false) (hpos : s.off < (iterS bs (n1 + 1 + n2) s).off) :
    Calls Tryd.prog 68 #[.pointer (some ⟨sb, 0, none⟩)] w
      (Left B sb kb bb bs (iterS bs (n1 + 1 + n2) s) (.string (bs.extract (s.off - 1) ((iterS bs (n1 + 1 + n2) s).off - 1))) w) := by
  obtain ⟨cap, ev, tg, tc, tn, r⟩ := h.mem.open
  have hsz := h.size
  have hoff := h.ok.off
  have c4 := r.c4; have c8 := r.c8
  have HA1 := Lib.hid A1
  have HD := Lib.hid D
  have HX := Lib.hid X
  have HL := Lib.hid L
  have Hhpos := Lib.hid hpos
  have HA2 := Lib.hid A2
  have H := Lib.hid h
  have t46 : (s.curr != 46) = true := by
    have this : isDecB s.curr = true := (HA1.out).1 0 (by have := (HA1.out).2.2; omega)
    simp [isDecB] at this
    simp; omega
  clear r h A1 D X L hpos A2
  go_enter Tryd.func68, Tryd.ntmps68
  go_wp2
  go_loopg [] n1 (fun k wr => k ≤ n1 ∧ Scn B sb kb bb bs (iterS bs (0 + (n1 - k)) s) wr ∧ Kept B w wr)
  case atStart => exact ⟨Nat.le_refl _, by rw [Nat.sub_self]; exact H.out, Kept.refl B w⟩
  case round =>
    obtain ⟨hk, hs, hkept⟩ := hrel
    clear c4 c8
    have hrw := (HA1.out).1 (n1 - gk)
    have hok := hs.ok
    by_cases hk0 : gk = 0
    · subst hk0
      simp only [Nat.sub_zero] at hs hrw hok
      have e3 := (HA1.out).2.1
      clear hrw
      simp only [Nat.zero_add] at hs hok e3
      have d0 : ((iterS bs n1 s).curr == 46) = true := by simpa using HD.out
      have HM0 : Hid (iterS bs (n1 + 1) s = nextS bs (iterS bs n1 s)) := rfl
      generalize hsz0 : iterS bs n1 s = sx at *
      have HZ0 := Lib.hid hsz0
      clear hsz0
      obtain ⟨cap2, ev2, tg2, tc2, tn2, r2⟩ := hs.mem.open
      have c8 := r2.c8
      have HS := Lib.hid hs
      have HK := Lib.hid hkept
      clear hs r2 hkept hok
      go_wp2_with (first | (go_at_call 67; refine (isDecimal_any _ _).mono ?_; rintro e w' ⟨rfl, rfl⟩) | (go_at_call 50; refine (next_any HS.out).mono ?_; rintro e w1 ⟨rfl, hs1, hk1⟩))
      go_loopg [4] n2 (fun k v wr => (v = .bool true ∨ (v = .bool false ∧ k = n2)) ∧ k ≤ n2 ∧ Scn B sb kb bb bs (iterS bs ((n1 + 1) + (n2 - k)) s) wr ∧ Kept B w wr)
      case atStart => exact ⟨Or.inr ⟨rfl, rfl⟩, Nat.le_refl _, by rw [Nat.sub_self, Nat.add_zero, HM0.out]; exact hs1, HK.out.trans hk1⟩
      case round =>
        obtain ⟨hv, hk, hs, hkept⟩ := hrel
        clear c8 d0 e3
        have hrw := (HA2.out).1 (n2 - gk)
        have hok := hs.ok
        by_cases hk0 : gk = 0
        · subst hk0
          rcases hv with rfl | ⟨rfl, h'⟩
          rotate_left
          · exfalso; have := (HA2.out).2.2; omega
          simp only [Nat.sub_zero] at hs hrw hok
          have e3 := (HA2.out).2.1
          clear hrw
          have HX0 := Lib.hid HX.out
          clear HX
          have l1 := HL.out
          have p1 := Hhpos.out
          generalize iterS bs (n1 + 1 + n2) s = sz at *
          obtain ⟨cap2, ev2, tg2, tc2, tn2, r2⟩ := hs.mem.open
          have c1 := r2.c1; have c4 := r2.c4; have c8 := r2.c8
          have hcap := r2.cap
          have ho2 := hs.ok.off
          have lo := hs.ok.lo; have hi := hs.ok.hi
          have HX := Lib.hid (lit_ready hs (s.off - 1) (by omega))
          have HS := Lib.hid hs
          have HK := Lib.hid hkept
          clear hs r2 hkept hok
          have i0 : (0 : Int) ≤ (s.off : Int) - 1 := by omega
          have i1 : (s.off : Int) - 1 ≤ (sz.off : Int) - 1 := by omega
          have i2 : (sz.off : Int) - 1 ≤ (cap2 : Int) := by omega
          have x1 : (lowI sz.curr == 101) = false := by
            have := low_e sz.curr lo hi
            have q := HX0.out
            simp; omega
          go_wp2_with (first | (go_at_call 67; refine (isDecimal_any _ _).mono ?_; rintro e w' ⟨rfl, rfl⟩) | (go_at_call 65; refine (isLetter_any _ _ lo hi).mono ?_; rintro e w' ⟨rfl, rfl⟩) | (go_at_call 83; refine (lower_any _ _).mono ?_; rintro e w' ⟨rfl, rfl⟩))
          go_quiet ((go_at_call 81; exact quiet_left (HX.out _ _)))
          go_wp2
          go_ret
          exact ⟨rfl, HS.out.drewN _, HK.out.drewN _⟩
        · have hj := hrw (by omega)
          have e0 : (n1 + 1) + (n2 - (gk - 1)) = ((n1 + 1) + (n2 - gk)) + 1 := by omega
          have HN := Lib.hid (show iterS bs ((n1 + 1) + (n2 - (gk - 1))) s = nextS bs (iterS bs ((n1 + 1) + (n2 - gk)) s) by rw [e0]; rfl)
          clear hrw e0
          generalize iterS bs ((n1 + 1) + (n2 - gk)) s = sj at *
          obtain ⟨cap1, ev1, tg1, tc1, tn1, r1⟩ := hs.mem.open
          have c8 := r1.c8
          have HS := Lib.hid hs
          have HK := Lib.hid hkept
          clear hs hkept r1 hok hv
          go_wp2_with (first | (go_at_call 67; refine (isDecimal_any _ _).mono ?_; rintro e w' ⟨rfl, rfl⟩) | (go_at_call 50; refine (next_any HS.out).mono ?_; rintro e w1 ⟨rfl, hs1, hk1⟩))
          go_roundg (gk - 1)
          case measure => omega
          case rel => exact ⟨Or.inl rfl, by omega, by rw [HN.out]; exact hs1, HK.out.trans hk1⟩
    · have hj := hrw (by omega)
      have e0 : 0 + (n1 - (gk - 1)) = (0 + (n1 - gk)) + 1 := by omega
      have HN := Lib.hid (show iterS bs (0 + (n1 - (gk - 1))) s = nextS bs (iterS bs (0 + (n1 - gk)) s) by rw [e0]; rfl)
      clear hrw e0
      generalize iterS bs (0 + (n1 - gk)) s = sj at *
      obtain ⟨cap1, ev1, tg1, tc1, tn1, r1⟩ := hs.mem.open
      have c8 := r1.c8
      have HS := Lib.hid hs
      have HK := Lib.hid hkept
      clear hs hkept r1 hok
      go_wp2_with (first | (go_at_call 67; refine (isDecimal_any _ _).mono ?_; rintro e w' ⟨rfl, rfl⟩) | (go_at_call 50; refine (next_any HS.out).mono ?_; rintro e w1 ⟨rfl, hs1, hk1⟩))
      go_roundg (gk - 1)
      case measure => omega
      case rel => exact ⟨by omega, by rw [HN.out]; exact hs1, HK.out.trans hk1⟩

set_option maxHeartbeats 2000000 in
set_option maxRecDepth 100000 in
theorem scanNumFE {B sb kb bb : Nat} {bs : ByteArray} {s : SS} {w : World} (h : Scn B sb kb bb bs s w) (h1 : 1 ≤ s.off) (n1 : Nat) (n2 : Nat) (n3 : Nat) (A1 : (∀ j, j < n1 → isDecB (iterS bs (0 + j) s).curr = true) ∧ isDecB (iterS bs (0 + n1) s).curr = false ∧ 1 ≤ n1) (D : (iterS bs n1 s).curr = 46) (A2 : (∀ j, j < n2 → isDecB (iterS bs (n1 + 1 + j) s).curr = true) ∧ isDecB (iterS bs (n1 + 1 + n2) s).curr = false ∧ 1 ≤ n2) (X : (iterS bs (n1 + 1 + n2) s).curr = 69 ∨ (iterS bs (n1 + 1 + n2) s).curr = 101) (G : (iterS bs ((n1 + 1 + n2) + 1) s).curr = 43 ∨ (iterS bs ((n1 + 1 + n2) + 1) s).curr = 45) (A3 : (∀ j, j < n3 → isDecB (iterS bs ((n1 + 1 + n2) + 2 + j) s).curr = true) ∧ isDecB (iterS bs ((n1 + 1 + n2) + 2 + n3) s).curr = false ∧ 1 ≤ n3) (L : isLetB (iterS bs ((n1 + 1 + n2) + 2 + n3) s).curr = false) (hpos : s.off < (iterS bs ((n1 + 1 + n2) + 2 + n3) s).off) :
    Calls Tryd.prog 68 #[.pointer (some ⟨sb, 0, none⟩)] w
      (Left B sb kb bb bs (iterS bs ((n1 + 1 + n2) + 2 + n3) s) (.string (bs.extract (s.off - 1) ((iterS bs ((n1 + 1 + n2) + 2 + n3) s).off - 1))) w) := by
  obtain ⟨cap, ev, tg, tc, tn, r⟩ := h.mem.open
  have hsz := h.size
  have hoff := h.ok.off
  have c4 := r.c4; have c8 := r.c8
  have HA1 := Lib.hid A1
  have HD := Lib.hid D
  have HX := Lib.hid X
  have HL := Lib.hid L
  have Hhpos := Lib.hid hpos
  have HA2 := Lib.hid A2
  have HA3 := Lib.hid A3
  have HG := Lib.hid G
  have H := Lib.hid h
  have t46 : (s.curr != 46) = true := by
    have this : isDecB s.curr = true := (HA1.out).1 0 (by have := (HA1.out).2.2; omega)
    simp [isDecB] at this
    simp; omega
  clear r h A1 D X L hpos A2 A3 G
  go_enter Tryd.func68, Tryd.ntmps68
  go_wp2
  go_loopg [] n1 (fun k wr => k ≤ n1 ∧ Scn B sb kb bb bs (iterS bs (0 + (n1 - k)) s) wr ∧ Kept B w wr)
  case atStart => exact ⟨Nat.le_refl _, by rw [Nat.sub_self]; exact H.out, Kept.refl B w⟩
  case round =>
    obtain ⟨hk, hs, hkept⟩ := hrel
    clear c4 c8
    have hrw := (HA1.out).1 (n1 - gk)
    have hok := hs.ok
    by_cases hk0 : gk = 0
    · subst hk0
      simp only [Nat.sub_zero] at hs hrw hok
      have e3 := (HA1.out).2.1
      clear hrw
      simp only [Nat.zero_add] at hs hok e3
      have d0 : ((iterS bs n1 s).curr == 46) = true := by simpa using HD.out
      have HM0 : Hid (iterS bs (n1 + 1) s = nextS bs (iterS bs n1 s)) := rfl
      generalize hsz0 : iterS bs n1 s = sx at *
      have HZ0 := Lib.hid hsz0
      clear hsz0
      obtain ⟨cap2, ev2, tg2, tc2, tn2, r2⟩ := hs.mem.open
      have c8 := r2.c8
      have HS := Lib.hid hs
      have HK := Lib.hid hkept
      clear hs r2 hkept hok
      go_wp2_with (first | (go_at_call 67; refine (isDecimal_any _ _).mono ?_; rintro e w' ⟨rfl, rfl⟩) | (go_at_call 50; refine (next_any HS.out).mono ?_; rintro e w1 ⟨rfl, hs1, hk1⟩))
      go_loopg [4] n2 (fun k v wr => (v = .bool true ∨ (v = .bool false ∧ k = n2)) ∧ k ≤ n2 ∧ Scn B sb kb bb bs (iterS bs ((n1 + 1) + (n2 - k)) s) wr ∧ Kept B w wr)
      case atStart => exact ⟨Or.inr ⟨rfl, rfl⟩, Nat.le_refl _, by rw [Nat.sub_self, Nat.add_zero, HM0.out]; exact hs1, HK.out.trans hk1⟩
      case round =>
        obtain ⟨hv, hk, hs, hkept⟩ := hrel
        clear c8 d0 e3
        have hrw := (HA2.out).1 (n2 - gk)
        have hok := hs.ok
        by_cases hk0 : gk = 0
        · subst hk0
          rcases hv with rfl | ⟨rfl, h'⟩
          rotate_left
          · exfalso; have := (HA2.out).2.2; omega
          simp only [Nat.sub_zero] at hs hrw hok
          have e3 := (HA2.out).2.1
          clear hrw
          have x0 := HX.out
          have HG2 : Hid ((nextS bs (iterS bs (n1 + 1 + n2) s)).curr = 43 ∨ (nextS bs (iterS bs (n1 + 1 + n2) s)).curr = 45) := HG.out
          have HM : Hid (iterS bs ((n1 + 1 + n2) + 2) s = nextS bs (nextS bs (iterS bs (n1 + 1 + n2) s))) := rfl
          generalize hsz1 : iterS bs (n1 + 1 + n2) s = sz at *
          have HZ1 := Lib.hid hsz1
          clear hsz1
          obtain ⟨cap2, ev2, tg2, tc2, tn2, r2⟩ := hs.mem.open
          have c4 := r2.c4; have c8 := r2.c8
          have lo := hs.ok.lo; have hi := hs.ok.hi
          have x1 : (lowI sz.curr == 101) = true := by
            have := low_e sz.curr lo hi
            simp; omega
          have HS := Lib.hid hs
          have HK := Lib.hid hkept
          clear hs r2 hkept hok x0
          go_wp2_with (first | (go_at_call 67; refine (isDecimal_any _ _).mono ?_; rintro e w' ⟨rfl, rfl⟩) | (go_at_call 83; refine (lower_any _ _).mono ?_; rintro e w' ⟨rfl, rfl⟩) | (go_at_call 50; fail))
          refine (next_any HS.out).mono ?_
          rintro e w1 ⟨rfl, hs1, hk1⟩
          obtain ⟨cap3, ev3, tg3, tc3, tn3, r3⟩ := hs1.mem.open
          clear c4 c8
          have c8 := r3.c8
          have HS1 := Lib.hid hs1
          have HK1 := Lib.hid hk1
          clear hs1 hk1 r3
          have g0 := HG2.out
          clear HG2
          generalize nextS bs sz = sy at *
          rcases g0 with g0 | g0
          · rw [g0] at c8
            clear g0
            go_wp2_with (go_at_call 50; refine (next_any HS1.out).mono ?_; rintro e w2 ⟨rfl, hs2, hk2⟩)
            go_loopg [5] n3 (fun k v wr => (v = .bool true ∨ (v = .bool false ∧ k = n3)) ∧ k ≤ n3 ∧ Scn B sb kb bb bs (iterS bs (((n1 + 1 + n2) + 2) + (n3 - k)) s) wr ∧ Kept B w wr)
            case atStart => exact ⟨Or.inr ⟨rfl, rfl⟩, Nat.le_refl _, by rw [Nat.sub_self, Nat.add_zero, HM.out]; exact hs2, (HK.out.trans HK1.out).trans hk2⟩
            case round =>
              obtain ⟨hv, hk, hs, hkept⟩ := hrel
              clear c8
              have hrw := (HA3.out).1 (n3 - gk)
              have hok := hs.ok
              by_cases hk0 : gk = 0
              · subst hk0
                rcases hv with rfl | ⟨rfl, h'⟩
                rotate_left
                · exfalso; have := (HA3.out).2.2; omega
                simp only [Nat.sub_zero] at hs hrw hok
                have e3 := (HA3.out).2.1
                clear hrw
                have l1 := HL.out
                have p1 := Hhpos.out
                generalize iterS bs ((n1 + 1 + n2) + 2 + n3) s = sz at *
                obtain ⟨cap2, ev2, tg2, tc2, tn2, r2⟩ := hs.mem.open
                have c1 := r2.c1; have c4 := r2.c4; have c8 := r2.c8
                have hcap := r2.cap
                have ho2 := hs.ok.off
                have lo := hs.ok.lo; have hi := hs.ok.hi
                have HX := Lib.hid (lit_ready hs (s.off - 1) (by omega))
                have HS := Lib.hid hs
                have HK := Lib.hid hkept
                clear hs r2 hkept hok
                have i0 : (0 : Int) ≤ (s.off : Int) - 1 := by omega
                have i1 : (s.off : Int) - 1 ≤ (sz.off : Int) - 1 := by omega
                have i2 : (sz.off : Int) - 1 ≤ (cap2 : Int) := by omega
                skip
                go_wp2_with (first | (go_at_call 67; refine (isDecimal_any _ _).mono ?_; rintro e w' ⟨rfl, rfl⟩) | (go_at_call 65; refine (isLetter_any _ _ lo hi).mono ?_; rintro e w' ⟨rfl, rfl⟩) | (go_at_call 83; refine (lower_any _ _).mono ?_; rintro e w' ⟨rfl, rfl⟩))
                go_quiet ((go_at_call 81; exact quiet_left (HX.out _ _)))
                go_wp2
                go_ret
                exact ⟨rfl, HS.out.drewN _, HK.out.drewN _⟩
              · have hj := hrw (by omega)
                have e0 : ((n1 + 1 + n2) + 2) + (n3 - (gk - 1)) = (((n1 + 1 + n2) + 2) + (n3 - gk)) + 1 := by omega
                have HN := Lib.hid (show iterS bs (((n1 + 1 + n2) + 2) + (n3 - (gk - 1))) s = nextS bs (iterS bs (((n1 + 1 + n2) + 2) + (n3 - gk)) s) by rw [e0]; rfl)
                clear hrw e0
                generalize iterS bs (((n1 + 1 + n2) + 2) + (n3 - gk)) s = sj at *
                obtain ⟨cap1, ev1, tg1, tc1, tn1, r1⟩ := hs.mem.open
                have c8 := r1.c8
                have HS := Lib.hid hs
                have HK := Lib.hid hkept
                clear hs hkept r1 hok hv
                go_wp2_with (first | (go_at_call 67; refine (isDecimal_any _ _).mono ?_; rintro e w' ⟨rfl, rfl⟩) | (go_at_call 50; refine (next_any HS.out).mono ?_; rintro e w1 ⟨rfl, hs1, hk1⟩))
                go_roundg (gk - 1)
                case measure => omega
                case rel => exact ⟨Or.inl rfl, by omega, by rw [HN.out]; exact hs1, HK.out.trans hk1⟩
          · rw [g0] at c8
            clear g0
            go_wp2_with (go_at_call 50; refine (next_any HS1.out).mono ?_; rintro e w2 ⟨rfl, hs2, hk2⟩)
            go_loopg [5] n3 (fun k v wr => (v = .bool true ∨ (v = .bool false ∧ k = n3)) ∧ k ≤ n3 ∧ Scn B sb kb bb bs (iterS bs (((n1 + 1 + n2) + 2) + (n3 - k)) s) wr ∧ Kept B w wr)
            case atStart => exact ⟨Or.inr ⟨rfl, rfl⟩, Nat.le_refl _, by rw [Nat.sub_self, Nat.add_zero, HM.out]; exact hs2, (HK.out.trans HK1.out).trans hk2⟩
            case round =>
              obtain ⟨hv, hk, hs, hkept⟩ := hrel
              clear c8
              have hrw := (HA3.out).1 (n3 - gk)
              have hok := hs.ok
              by_cases hk0 : gk = 0
              · subst hk0
                rcases hv with rfl | ⟨rfl, h'⟩
                rotate_left
                · exfalso; have := (HA3.out).2.2; omega
                simp only [Nat.sub_zero] at hs hrw hok
                have e3 := (HA3.out).2.1
                clear hrw
                have l1 := HL.out
                have p1 := Hhpos.out
                generalize iterS bs ((n1 + 1 + n2) + 2 + n3) s = sz at *
                obtain ⟨cap2, ev2, tg2, tc2, tn2, r2⟩ := hs.mem.open
                have c1 := r2.c1; have c4 := r2.c4; have c8 := r2.c8
                have hcap := r2.cap
                have ho2 := hs.ok.off
                have lo := hs.ok.lo; have hi := hs.ok.hi
                have HX := Lib.hid (lit_ready hs (s.off - 1) (by omega))
                have HS := Lib.hid hs
                have HK := Lib.hid hkept
                clear hs r2 hkept hok
                have i0 : (0 : Int) ≤ (s.off : Int) - 1 := by omega
                have i1 : (s.off : Int) - 1 ≤ (sz.off : Int) - 1 := by omega
                have i2 : (sz.off : Int) - 1 ≤ (cap2 : Int) := by omega
                skip
                go_wp2_with (first | (go_at_call 67; refine (isDecimal_any _ _).mono ?_; rintro e w' ⟨rfl, rfl⟩) | (go_at_call 65; refine (isLetter_any _ _ lo hi).mono ?_; rintro e w' ⟨rfl, rfl⟩) | (go_at_call 83; refine (lower_any _ _).mono ?_; rintro e w' ⟨rfl, rfl⟩))
                go_quiet ((go_at_call 81; exact quiet_left (HX.out _ _)))
                go_wp2
                go_ret
                exact ⟨rfl, HS.out.drewN _, HK.out.drewN _⟩
              · have hj := hrw (by omega)
                have e0 : ((n1 + 1 + n2) + 2) + (n3 - (gk - 1)) = (((n1 + 1 + n2) + 2) + (n3 - gk)) + 1 := by omega
                have HN := Lib.hid (show iterS bs (((n1 + 1 + n2) + 2) + (n3 - (gk - 1))) s = nextS bs (iterS bs (((n1 + 1 + n2) + 2) + (n3 - gk)) s) by rw [e0]; rfl)
                clear hrw e0
                generalize iterS bs (((n1 + 1 + n2) + 2) + (n3 - gk)) s = sj at *
                obtain ⟨cap1, ev1, tg1, tc1, tn1, r1⟩ := hs.mem.open
                have c8 := r1.c8
                have HS := Lib.hid hs
                have HK := Lib.hid hkept
                clear hs hkept r1 hok hv
                go_wp2_with (first | (go_at_call 67; refine (isDecimal_any _ _).mono ?_; rintro e w' ⟨rfl, rfl⟩) | (go_at_call 50; refine (next_any HS.out).mono ?_; rintro e w1 ⟨rfl, hs1, hk1⟩))
                go_roundg (gk - 1)
                case measure => omega
                case rel => exact ⟨Or.inl rfl, by omega, by rw [HN.out]; exact hs1, HK.out.trans hk1⟩
        · have hj := hrw (by omega)
          have e0 : (n1 + 1) + (n2 - (gk - 1)) = ((n1 + 1) + (n2 - gk)) + 1 := by omega
          have HN := Lib.hid (show iterS bs ((n1 + 1) + (n2 - (gk - 1))) s = nextS bs (iterS bs ((n1 + 1) + (n2 - gk)) s) by rw [e0]; rfl)
          clear hrw e0
          generalize iterS bs ((n1 + 1) + (n2 - gk)) s = sj at *
          obtain ⟨cap1, ev1, tg1, tc1, tn1, r1⟩ := hs.mem.open
          have c8 := r1.c8
          have HS := Lib.hid hs
          have HK := Lib.hid hkept
          clear hs hkept r1 hok hv
          go_wp2_with (first | (go_at_call 67; refine (isDecimal_any _ _).mono ?_; rintro e w' ⟨rfl, rfl⟩) | (go_at_call 50; refine (next_any HS.out).mono ?_; rintro e w1 ⟨rfl, hs1, hk1⟩))
          go_roundg (gk - 1)
          case measure => omega
          case rel => exact ⟨Or.inl rfl, by omega, by rw [HN.out]; exact hs1, HK.out.trans hk1⟩
    · have hj := hrw (by omega)
      have e0 : 0 + (n1 - (gk - 1)) = (0 + (n1 - gk)) + 1 := by omega
      have HN := Lib.hid (show iterS bs (0 + (n1 - (gk - 1))) s = nextS bs (iterS bs (0 + (n1 - gk)) s) by rw [e0]; rfl)
      clear hrw e0
      generalize iterS bs (0 + (n1 - gk)) s = sj at *
      obtain ⟨cap1, ev1, tg1, tc1, tn1, r1⟩ := hs.mem.open
      have c8 := r1.c8
      have HS := Lib.hid hs
      have HK := Lib.hid hkept
      clear hs hkept r1 hok
      go_wp2_with (first | (go_at_call 67; refine (isDecimal_any _ _).mono ?_; rintro e w' ⟨rfl, rfl⟩) | (go_at_call 50; refine (next_any HS.out).mono ?_; rintro e w1 ⟨rfl, hs1, hk1⟩))
      go_roundg (gk - 1)
      case measure => omega
      case rel => exact ⟨by omega, by rw [HN.out]; exact hs1, HK.out.trans hk1⟩

end Go.Proofs.YtplljfbbipeakaaDoor
