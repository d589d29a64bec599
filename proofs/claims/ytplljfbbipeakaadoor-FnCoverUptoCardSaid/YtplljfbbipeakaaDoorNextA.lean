/- Scanner.next, walked: the end of the text; an ASCII character. -/
import Derived.Test.YtplljfbbipeakaaDoorMem
import Derived.Deep.QuietTactic
import Derived.BigQuiet
import Derived.BigRegion
import Derived.Lib.Hide
namespace Go.Proofs.YtplljfbbipeakaaDoor
open Go Go.RowKit

set_option maxHeartbeats 1000000 in
set_option maxRecDepth 100000 in
theorem next_eof {B sb kb bb : Nat} {bs : ByteArray} {s : SS} {w : World} (h : Scn B sb kb bb bs s w) (ho : bs.size ≤ s.off) :
    Calls Tryd.prog 50 #[.pointer (some ⟨sb, 0, none⟩)] w (Left B sb kb bb bs (nextS bs s) (.tuple #[]) w) := by
  obtain ⟨cap, ev, tg, tc, tn, r⟩ := h.mem.open
  have hsz := h.size
  have c1 := r.c1; have c4 := r.c4; have c8 := r.c8; have f4 := r.f 4; have f8 := r.f 8
  have R := Lib.hid r
  have H := Lib.hid h
  clear r h
  go_enter Tryd.func50, Tryd.ntmps50
  go_wp2
  go_quiet (fail)
  go_wp2
  go_end0
  have r := R.out
  have h := H.out
  have hs : nextS bs s = { s with curr := -1, off := bs.size + 1 } := by unfold nextS; rw [if_neg (by omega)]
  have hk : Kept B w _ := (Kept.refl B w).drewN nq
  have r1 := r.drewN nq
  have hk1 := r1.keptSet h.mem.bsb hk 8 (.int .i32 (-1))
  have r2 := r1.set_curr (-1)
  have hk2 := r2.keptSet h.mem.bsb hk1 4 (.int .i64 (bs.size + 1 : Nat))
  have r3 := r2.set_off (bs.size + 1) (by have := r.tn; have := h.ok.off; omega)
  refine ⟨rfl, ⟨?_, nextS_ok h.ok, h.size⟩, hk2⟩
  rw [hs]
  exact h.mem.of_step hk2 r3

theorem byteIntOf (bs : ByteArray) (i : Nat) : ∃ b : Nat, (bs.get! i).toNat = b ∧ b < 256 := ⟨_, rfl, UInt8.toNat_lt _⟩

set_option maxHeartbeats 1000000 in
set_option maxRecDepth 100000 in
theorem next_plain {B sb kb bb : Nat} {bs : ByteArray} {s : SS} {w : World} (h : Scn B sb kb bb bs s w) (ho : s.off < bs.size)
    (h0 : (bs.get! s.off).toNat ≠ 0) (h128 : (bs.get! s.off).toNat < 128) (h10 : (bs.get! s.off).toNat ≠ 10) (h9 : (bs.get! s.off).toNat ≠ 9) :
    Calls Tryd.prog 50 #[.pointer (some ⟨sb, 0, none⟩)] w (Left B sb kb bb bs (nextS bs s) (.tuple #[]) w) := by
  obtain ⟨cap, ev, tg, tc, tn, r⟩ := h.mem.open
  have hsz := h.size
  have c1 := r.c1; have c4 := r.c4; have c6 := r.c6; have c7 := r.c7; have c8 := r.c8; have f4 := r.f 4; have f6 := r.f 6; have f7 := r.f 7; have f8 := r.f 8
  have hcol := h.ok.col
  have hb := h.mem.bytes.cell s.off ho
  have hd := decode_ascii bs s.off h128
  obtain ⟨b, eb, hb256⟩ := byteIntOf bs s.off
  rw [eb] at hb hd h0 h128 h10 h9
  have b0 : ((b : Int) == 0) = false := by simp; omega
  have b10 : ((b : Int) == 10) = false := by simp; omega
  have b9 : ((b : Int) == 9) = false := by simp; omega
  have b128 : (b : Int) < 128 := by omega
  have D := Lib.hid hd
  have R := Lib.hid r
  have H := Lib.hid h
  clear r h hd eb h0 h10 h9 h128
  go_enter Tryd.func50, Tryd.ntmps50
  go_wp2
  go_quiet (fail)
  go_wp2
  go_region
  go_wp2
  go_region
  go_wp2
  go_end0
  have r := R.out
  have h := H.out
  have hs : nextS bs s = { off := s.off + 1, row := s.row, col := s.col + 1, width := 1, curr := b, errs := s.errs } := by
    unfold nextS; rw [if_pos ho, D.out]
    have e10 : ¬ b = 10 := by intro e; subst e; simp at b10
    have e0 : ¬ b = 0 := by intro e; subst e; simp at b0
    have e1 : ¬ b = 65533 := by omega
    have e2 : ¬ b = 65279 := by omega
    simp [e10, stepErr, e0, e1, e2]
  have hk : Kept B w _ := (Kept.refl B w).drewN (nq + 1)
  have r1 := r.drewN (nq + 1)
  have hk1 := r1.keptSet h.mem.bsb hk 8 (.int .i32 b)
  have r2 := r1.set_curr b
  have hk2 := r2.keptSet h.mem.bsb hk1 7 (.int .i64 (1 : Nat))
  have r3 := r2.set_width 1
  have hk3 := r3.keptSet h.mem.bsb hk2 4 (.int .i64 (s.off + 1 : Nat))
  have r4 := r3.set_off (s.off + 1) (by have := r.tn; omega)
  have hk4 := r4.keptSet h.mem.bsb hk3 6 (.int .i64 (s.col + 1 : Nat))
  have r5 := (r4.set_col (s.col + 1)).drew
  refine ⟨rfl, ⟨?_, nextS_ok h.ok, h.size⟩, hk4.drew⟩
  rw [hs]
  exact h.mem.of_step hk4.drew r5

set_option maxHeartbeats 1000000 in
set_option maxRecDepth 100000 in
theorem next_newline {B sb kb bb : Nat} {bs : ByteArray} {s : SS} {w : World} (h : Scn B sb kb bb bs s w) (ho : s.off < bs.size)
    (h10 : (bs.get! s.off).toNat = 10) :
    Calls Tryd.prog 50 #[.pointer (some ⟨sb, 0, none⟩)] w (Left B sb kb bb bs (nextS bs s) (.tuple #[]) w) := by
  obtain ⟨cap, ev, tg, tc, tn, r⟩ := h.mem.open
  have hsz := h.size
  have c1 := r.c1; have c3 := r.c3; have c4 := r.c4; have c5 := r.c5; have c6 := r.c6; have c7 := r.c7; have c8 := r.c8; have f3 := r.f 3; have f4 := r.f 4; have f5 := r.f 5; have f6 := r.f 6; have f7 := r.f 7; have f8 := r.f 8
  have hrow := h.ok.row
  have hb := h.mem.bytes.cell s.off ho
  have hd := decode_ascii bs s.off (by omega)
  rw [h10] at hb hd
  have D := Lib.hid hd
  have R := Lib.hid r
  have H := Lib.hid h
  clear r h hd h10
  go_enter Tryd.func50, Tryd.ntmps50
  go_wp2
  go_quiet (fail)
  go_wp2
  go_region
  go_wp2
  go_region
  go_wp2
  go_end0
  have r := R.out
  have h := H.out
  have hs : nextS bs s = { off := s.off + 1, row := s.row + 1, col := 0, width := 1, curr := 10, errs := s.errs } := by
    unfold nextS; rw [if_pos ho, D.out]
    simp [stepErr]
  have hk : Kept B w _ := (Kept.refl B w).drewN (nq + 1)
  have r1 := r.drewN (nq + 1)
  have hk1 := r1.keptSet h.mem.bsb hk 8 (.int .i32 10)
  have r2 := r1.set_curr 10
  have hk2 := r2.keptSet h.mem.bsb hk1 7 (.int .i64 (1 : Nat))
  have r3 := r2.set_width 1
  have hk3 := r3.keptSet h.mem.bsb hk2 4 (.int .i64 (s.off + 1 : Nat))
  have r4 := r3.set_off (s.off + 1) (by have := r.tn; omega)
  have hk4 := r4.keptSet h.mem.bsb hk3 5 (.int .i64 (s.row + 1 : Nat))
  have r5 := r4.set_row (s.row + 1)
  have hk5 := r5.keptSet h.mem.bsb hk4 6 (.int .i64 (0 : Nat))
  have r6 := r5.set_col 0
  have hk6 := r6.keptSet h.mem.bsb hk5 3 (.slice (some ⟨tg, 0, none⟩) 0 tc)
  have r7 := (r6.set_tabs r6.no_tabs (Nat.zero_le _)).drew
  refine ⟨rfl, ⟨?_, nextS_ok h.ok, h.size⟩, hk6.drew⟩
  rw [hs]
  exact h.mem.of_step hk6.drew r7

end Go.Proofs.YtplljfbbipeakaaDoor
