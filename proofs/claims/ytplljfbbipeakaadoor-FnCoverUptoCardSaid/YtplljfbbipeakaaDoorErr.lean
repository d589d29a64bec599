/- Scanner.error: one error more in the scanner's list. -/
import Derived.Test.YtplljfbbipeakaaDoorMem
import Derived.Deep.RegionLaw
import Derived.Deep.QuietTactic
import Derived.BigQuiet
import Derived.BigRegion
import Derived.Deep.RegionHeld3
import Derived.Lib.Hide
import Derived.Deep.AppendLies
namespace Go.Proofs.YtplljfbbipeakaaDoor
open Go Go.RowKit

theorem info130 : (Tryd.prog.info? 130).map (fun i => (i.zero, i.size, i.bytes)) = some (some (.agg #[.string .empty, .slice none 0 0, .int .i64 0, .int .i64 0, .int .i64 0, .int .i64 0]), 6, 72) := by kernel_rfl

/-- The error's own block, ahead of the append. -/
def ErrPost (sb B n off row col : Nat) (msg : ByteArray) (ev : Value) (w : World) (e : Ending) (w' : World) : Prop :=
  e = .returned (.tuple #[]) ∧ ∃ g c w1 xs, w1.ownsRow B 130 6 (.slice (some ⟨g, 0, none⟩) (n + 1) c) (n + 1) xs ∧
    ((w.alloc (.cells #[.string msg, .slice none 0 0, .int .i64 off, .int .i64 0, .int .i64 row, .int .i64 col] 130)).drew).grownBy w1 ev.ownBlock ∧
    w' = w1.setCell ⟨sb, 2, none⟩ (.slice (some ⟨g, 0, none⟩) (n + 1) c)

set_option maxHeartbeats 16000000 in
set_option maxRecDepth 100000 in
theorem error_walk (sb n B : Nat) (off row col : Nat) (msg : ByteArray) (ev : Value) (exs : List Value) (w : World)
   (c2 : w.cell? ⟨sb, 2, none⟩ = some ev)
   (c4 : w.cell? ⟨sb, 4, none⟩ = some (.int .i64 off)) (c5 : w.cell? ⟨sb, 5, none⟩ = some (.int .i64 row))
   (c6 : w.cell? ⟨sb, 6, none⟩ = some (.int .i64 col)) 
   (f2 : w.frozen? ⟨sb, 2, none⟩ = false)
   (he : w.ownsRow B 130 6 ev n exs) (hB : B ≤ w.heap.size) (hn : n ≤ 1099511627776) (hne : ev.ownBlock ≠ some sb) :
    Calls Tryd.prog 72 #[.pointer (some ⟨sb, 0, none⟩), .string msg] w (ErrPost sb B n off row col msg ev w) := by
  obtain ⟨i0, hi, hz0, hz1, hz2⟩ := info_parts info130
  have lsb := World.block_lt_of_cell? w _ c2
  have hb1 : n + 1 ≤ maxLen := by unfold maxLen; omega
  have hb2 : (n + 1) * 72 ≤ 140737488355328 := by omega
  have k2 : ∀ o, (w.alloc o).cell? ⟨sb, 2, none⟩ = some ev := fun o => (World.cell?_of_block (a := ⟨sb, 2, none⟩) (w := w) (w' := w.alloc o) (Below.heap_alloc w o sb lsb)).trans c2
  have l2 : ∀ o, (w.alloc o).frozen? ⟨sb, 2, none⟩ = false := fun o => (World.frozen?_of_block (a := ⟨sb, 2, none⟩) (w := w) (w' := w.alloc o) (Below.heap_alloc w o sb lsb)).trans f2
  have he' := Lib.hid he
  go_enter Tryd.func72, Tryd.ntmps72
  go_wp2
  go_region_law
    (refine step_append_lies _ rfl (.tmp 8) (.tmp 24) 78 rfl B 130 i0 _ 6 72 Tryd.underlying78 hi hz0 hz1 hz2 rfl (by decide) ev n exs (by rfl) (he'.out.alloc _).drew ⟨w.heap.size, 0, none⟩ 1 1 [.string msg, .slice none 0 0, .int .i64 off, .int .i64 0, .int .i64 row, .int .i64 col] (by rfl) (by rfl) (World.news_of_block (cs := #[.string msg, .slice none 0 0, .int .i64 off, .int .i64 0, .int .i64 row, .int .i64 col]) (t := 130) (fr := (0, 0)) (heap_alloc_new w _)) (by simp [Value.oneCell']) (by decide) hb1 hb2 (by simp; omega) (w.heap.size + 1) (by simp) ?_; intro g1 cap1 w1 hown1 hgrow1 hat1 hlt1; clear hat1; have HO := Lib.hid hown1; clear hown1; have cc2 : w1.cell? ⟨sb, 2, none⟩ = some ev := (hgrow1.cell_far ⟨sb, 2, none⟩ (by simp; omega) (Ne.symm hne)).trans (by simpa using k2 _); have ff2 : w1.frozen? ⟨sb, 2, none⟩ = false := (hgrow1.frozen_far ⟨sb, 2, none⟩ (by simp; omega) (Ne.symm hne)).trans (by simpa using l2 _))
  all_goals (go_wp2; go_end0; exact ⟨rfl, _, _, _, _, (‹Hid (World.ownsRow _ B 130 6 _ (n + 1) _)›).out, ‹World.grownBy _ _ _›, rfl⟩)

set_option maxRecDepth 100000 in
/-- One error more. -/
theorem error_mem {B sb kb bb : Nat} {bs : ByteArray} {s : SS} {w : World} (msg : ByteArray) (h : Mem B sb kb bb bs s w) (hn : s.errs ≤ 1099511627776) :
    Calls Tryd.prog 72 #[.pointer (some ⟨sb, 0, none⟩), .string msg] w fun e w' => e = .returned (.tuple #[]) ∧ Mem B sb kb bb bs s.err w' ∧ Kept B w w' := by
  obtain ⟨cap, ev, tg, tc, tn, r⟩ := h.open
  obtain ⟨exs, he⟩ := r.errs
  obtain ⟨txs, ht⟩ := r.tabs
  refine (error_walk sb s.errs B s.off s.row s.col msg ev exs w r.c2 r.c4 r.c5 r.c6 (r.f 2) he h.bw hn (own_ne he r.blk (by decide))).mono ?_
  rintro e w' ⟨rfl, g, c, w1, xs, hown, hgrow, rfl⟩
  have k0 : Kept B w (w.alloc (.cells #[.string msg, .slice none 0 0, .int .i64 s.off, .int .i64 0, .int .i64 s.row, .int .i64 s.col] 130)).drew := ((Kept.refl B w).alloc _).drew
  have he1 : (w.alloc (.cells #[.string msg, .slice none 0 0, .int .i64 s.off, .int .i64 0, .int .i64 s.row, .int .i64 s.col] 130)).drew.ownsRow B 130 6 ev s.errs exs := he.alloc _
  have ht1 : (w.alloc (.cells #[.string msg, .slice none 0 0, .int .i64 s.off, .int .i64 0, .int .i64 s.row, .int .i64 s.col] 130)).drew.ownsRow B 3 1 (.slice (some ⟨tg, 0, none⟩) tn tc) tn txs := ht.alloc _
  have hb1 : (w.alloc (.cells #[.string msg, .slice none 0 0, .int .i64 s.off, .int .i64 0, .int .i64 s.row, .int .i64 s.col] 130)).drew.heap[sb]? = some (.cells (cellsOf kb bb bs.size cap ev (.slice (some ⟨tg, 0, none⟩) tn tc) s) 88 (0, 0)) := row_alloc r.blk
  have k1 : Kept B w w1 := k0.grown hgrow he1 (Or.inr rfl)
  have hb2 : w1.heap[sb]? = some (.cells (cellsOf kb bb bs.size cap ev (.slice (some ⟨tg, 0, none⟩) tn tc) s) 88 (0, 0)) := by
    rw [hgrow.block sb (lt_of_block hb1) (fun e => own_ne he1 hb1 (by decide) e.symm)]; exact hb1
  have hne : (Value.slice (some ⟨tg, 0, none⟩) tn tc).ownBlock = none ∨ (Value.slice (some ⟨tg, 0, none⟩) tn tc).ownBlock ≠ ev.ownBlock := by
    rcases ht1.2 with ⟨e, _⟩ | ⟨g', cap', cur', e, _, hh, _⟩
    · cases e
    · cases e
      exact Or.inr (fun e => own_ne he1 hh (by decide) (by rw [← e]; rfl))
  have ht2 : w1.ownsRow B 3 1 (.slice (some ⟨tg, 0, none⟩) tn tc) tn txs := ht1.kept hgrow hne
  have hb3 := row_set (i := 2) (Value.slice (some ⟨g, 0, none⟩) (s.errs + 1) c) hb2
  refine ⟨rfl, ?_, k1.setCell (p := ⟨sb, 2, none⟩) h.bsb hb2 rfl _⟩
  exact h.of_step (k1.setCell (p := ⟨sb, 2, none⟩) h.bsb hb2 rfl _) (cap := cap) (ev := .slice (some ⟨g, 0, none⟩) (s.errs + 1) c) (tg := tg) (tc := tc) (tn := tn)
    ⟨hb3, r.cap, ⟨_, owns_set hown hb2 (by decide) _⟩, ⟨_, owns_set ht2 hb2 (by decide) _⟩, r.tn⟩

end Go.Proofs.YtplljfbbipeakaaDoor
