/- Scanner.next, walked: a NUL; a character beyond ASCII. -/
import Derived.Test.YtplljfbbipeakaaDoorNextT
import Derived.Test.YtplljfbbipeakaaDoorErr
import Derived.Deep.RegionHeld3
namespace Go.Proofs.YtplljfbbipeakaaDoor
open Go Go.RowKit

theorem Rows1.toMem {B sb kb bb : Nat} {bs : ByteArray} {s0 s : SS} {w0 W : World} (h : Mem B sb kb bb bs s0 w0) {cap : Nat} {ev : Value} {tg tc tn : Nat} (k : Kept B w0 W) (r : Rows1 B sb kb bb bs s cap ev tg tc tn W) : Mem B sb kb bb bs s W := h.of_step k r

set_option maxHeartbeats 1000000 in
set_option maxRecDepth 100000 in
theorem next_zero {B sb kb bb : Nat} {bs : ByteArray} {s : SS} {w : World} (h : Scn B sb kb bb bs s w) (ho : s.off < bs.size)
    (hz : (bs.get! s.off).toNat = 0) :
    Calls Tryd.prog 50 #[.pointer (some ⟨sb, 0, none⟩)] w (Left B sb kb bb bs (nextS bs s) (.tuple #[]) w) := by
  obtain ⟨cap, ev, tg, tc, tn, r⟩ := h.mem.open
  have hsz := h.size
  have c1 := r.c1; have c4 := r.c4; have c6 := r.c6; have c7 := r.c7; have c8 := r.c8; have f4 := r.f 4; have f6 := r.f 6; have f7 := r.f 7; have f8 := r.f 8
  have hcol := h.ok.col
  have hb := h.mem.bytes.cell s.off ho
  have hd := decode_ascii bs s.off (by omega)
  rw [hz] at hb hd
  have D := Lib.hid hd
  have R := Lib.hid r
  have H := Lib.hid h
  clear r h hd hz
  go_enter Tryd.func50, Tryd.ntmps50
  go_wp2
  go_quiet (fail)
  go_wp2
  go_region
  go_wp2_with fail
  have r1 := R.out.drewN (nq + 1)
  have hsb := H.out.mem.bsb
  have k1 := r1.keptSet hsb ((Kept.refl B w).drewN (nq + 1)) 8 (.int .i32 0)
  have r2 := r1.set_curr 0
  have k2 := r2.keptSet hsb k1 7 (.int .i64 (1 : Nat))
  have r3 := r2.set_width 1
  have K2 := Lib.hid k2
  have M := Lib.hid (r3.toMem H.out.mem k2)
  clear k1 k2 r1 r2 r3 c1 c4 c6 c7 c8 f4 f6 f7 f8
  refine (error_mem _ M.out (by show s.errs ≤ _; have := H.out.ok.errs; omega)).mono ?_
  rintro e w1 ⟨rfl, hm, hk⟩
  obtain ⟨cap1, ev1, tg1, tc1, tn1, r4⟩ := hm.open
  have c4 := r4.c4; have c6 := r4.c6; have c7 := r4.c7; have c8 := r4.c8; have f4 := r4.f 4; have f6 := r4.f 6
  simp only [SS.err] at c4 c6 c7 c8
  have KE := Lib.hid (K2.out.trans hk)
  have R4 := Lib.hid r4
  have HM := Lib.hid hm
  clear r4 hm hk
  go_wp2
  go_region
  go_wp2
  go_end0
  have hs : nextS bs s = { off := s.off + 1, row := s.row, col := s.col + 1, width := 1, curr := 0, errs := s.errs + 1 } := by
    unfold nextS; rw [if_pos ho, D.out]
    simp [stepErr]
  have r5 := R4.out.drewN 0
  have hk5 := R4.out.drew.keptSet hsb KE.out.drew 4 (.int .i64 (s.off + 1 : Nat))
  have r6 := R4.out.drew.set_off (s.off + 1) (by have := R4.out.tn; simp only [SS.err] at this; omega)
  have hk6 := r6.keptSet hsb hk5 6 (.int .i64 (s.col + 1 : Nat))
  have r7 := r6.set_col (s.col + 1)
  refine ⟨rfl, ⟨?_, nextS_ok H.out.ok, H.out.size⟩, hk6⟩
  rw [hs]
  exact H.out.mem.of_step hk6 r7

end Go.Proofs.YtplljfbbipeakaaDoor
