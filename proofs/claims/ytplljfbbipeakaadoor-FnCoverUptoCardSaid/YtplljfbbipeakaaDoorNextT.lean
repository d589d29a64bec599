/- Scanner.next, walked: a tab. -/
import Derived.Test.YtplljfbbipeakaaDoorNextA
import Derived.Deep.RegionLaw
import Derived.Deep.AppendLies
namespace Go.Proofs.YtplljfbbipeakaaDoor
open Go Go.RowKit

/-- The world gets a name; what is known of it is said. -/
theorem gen_wp {P : Program} {c : Code} {Q : Exit → Act → World → Prop} {a : Act} {X : World} (K : World → Prop) (h : K X) (k : ∀ W, K W → c.wp P Q a W) : c.wp P Q a X := k X h

theorem info3 : (Tryd.prog.info? 3).map (fun i => (i.zero, i.size, i.bytes)) = some (some (.int .i64 0), 1, 8) := by kernel_rfl

/-- Behind the append of one tab. -/
theorem Rows1.tabs_grown {B sb kb bb : Nat} {bs : ByteArray} {s : SS} {cap : Nat} {ev : Value} {tg tc tn : Nat} {W : World} (r : Rows1 B sb kb bb bs s cap ev tg tc tn W) {w : World} (k : Kept B w W) (hsb : B ≤ sb)
    {o : Obj} {w1 : World} {g1 cap1 : Nat} {xs : List Value} (hown : w1.ownsRow B 3 1 (.slice (some ⟨g1, 0, none⟩) (tn + 1) cap1) (tn + 1) xs) (hg : ((W.alloc o).drew).grownBy w1 (Value.slice (some ⟨tg, 0, none⟩) tn tc).ownBlock) (htn : tn + 1 ≤ s.off) :
    Rows1 B sb kb bb bs s cap ev g1 cap1 (tn + 1) (w1.setCell ⟨sb, 3, none⟩ (.slice (some ⟨g1, 0, none⟩) (tn + 1) cap1)) ∧ Kept B w (w1.setCell ⟨sb, 3, none⟩ (.slice (some ⟨g1, 0, none⟩) (tn + 1) cap1)) := by
  obtain ⟨txs, ht⟩ := r.tabs
  obtain ⟨exs, he⟩ := r.errs
  have ht1 : (W.alloc o).drew.ownsRow B 3 1 (.slice (some ⟨tg, 0, none⟩) tn tc) tn txs := ht.alloc _
  have he1 : (W.alloc o).drew.ownsRow B 130 6 ev s.errs exs := he.alloc _
  have hb1 : (W.alloc o).drew.heap[sb]? = some (.cells (cellsOf kb bb bs.size cap ev (.slice (some ⟨tg, 0, none⟩) tn tc) s) 88 (0, 0)) := row_alloc r.blk
  have k1 : Kept B w w1 := (k.alloc o).drew.grown hg ht1 (Or.inl rfl)
  have hb2 : w1.heap[sb]? = some (.cells (cellsOf kb bb bs.size cap ev (.slice (some ⟨tg, 0, none⟩) tn tc) s) 88 (0, 0)) := by
    rw [hg.block sb (lt_of_block hb1) (fun e => own_ne ht1 hb1 (by decide) e.symm)]; exact hb1
  have he2 : w1.ownsRow B 130 6 ev s.errs exs := by
    refine he1.kept hg ?_
    rcases he1.2 with ⟨rfl, _⟩ | ⟨g', cap', cur', rfl, _, hh, _⟩
    · exact Or.inl rfl
    · exact Or.inr (fun e => own_ne ht1 hh (by decide) (by rw [← e]; rfl))
  exact ⟨⟨row_set _ hb2, r.cap, ⟨exs, owns_set he2 hb2 (by decide) _⟩, ⟨xs, owns_set hown hb2 (by decide) _⟩, htn⟩, k1.setCell (p := ⟨sb, 3, none⟩) hsb hb2 rfl _⟩

set_option maxHeartbeats 2000000 in
set_option maxRecDepth 100000 in
theorem next_tab {B sb kb bb : Nat} {bs : ByteArray} {s : SS} {w : World} (h : Scn B sb kb bb bs s w) (ho : s.off < bs.size)
    (h9 : (bs.get! s.off).toNat = 9) :
    Calls Tryd.prog 50 #[.pointer (some ⟨sb, 0, none⟩)] w (Left B sb kb bb bs (nextS bs s) (.tuple #[]) w) := by
  obtain ⟨cap, ev, tg, tc, tn, r⟩ := h.mem.open
  obtain ⟨i0, hi, hz0, hz1, hz2⟩ := info_parts info3
  have hsz := h.size
  have c1 := r.c1; have c3 := r.c3; have c4 := r.c4; have c6 := r.c6; have c7 := r.c7; have c8 := r.c8; have f3 := r.f 3; have f4 := r.f 4; have f6 := r.f 6; have f7 := r.f 7; have f8 := r.f 8
  have hcol := h.ok.col
  have hb := h.mem.bytes.cell s.off ho
  have hd := decode_ascii bs s.off (by omega)
  rw [h9] at hb hd
  have lsb := lt_of_block r.blk
  have D := Lib.hid hd
  have R := Lib.hid r
  have H := Lib.hid h
  clear r h hd h9
  go_enter Tryd.func50, Tryd.ntmps50
  go_wp2
  go_quiet (fail)
  go_wp2
  go_region
  go_wp2
  go_region
  go_wp2
  refine gen_wp (fun W => Rows1 B sb kb bb bs { off := s.off + 1, row := s.row, col := s.col + 1, width := 1, curr := 9, errs := s.errs } cap ev tg tc tn W ∧ Kept B w W) ⟨?_, ?_⟩ ?_
  · exact (((((R.out.drewN (nq + 1)).set_curr 9).set_width 1).set_off (s.off + 1) (by have := R.out.tn; omega)).set_col (s.col + 1)).drew
  · have r1 := R.out.drewN (nq + 1)
    have hb := H.out.mem.bsb
    have k1 := r1.keptSet hb ((Kept.refl B w).drewN (nq + 1)) 8 (.int .i32 9)
    have r2 := r1.set_curr 9
    have k2 := r2.keptSet hb k1 7 (.int .i64 (1 : Nat))
    have r3 := r2.set_width 1
    have k3 := r3.keptSet hb k2 4 (.int .i64 (s.off + 1 : Nat))
    have r4 := r3.set_off (s.off + 1) (by have := R.out.tn; omega)
    exact (r4.keptSet hb k3 6 (.int .i64 (s.col + 1 : Nat))).drew
  clear c1 c3 c4 c6 c7 c8 f3 f4 f6 f7 f8 hb
  rintro W ⟨r, k⟩
  have c3 := r.c3; have c6 := r.c6; have f3 := r.f 3
  have htn := r.tn
  obtain ⟨txs, ht⟩ := r.tabs
  have hne := own_ne ht r.blk (by decide)
  have lsb := lt_of_block r.blk
  have hBW : B ≤ W.heap.size := Nat.le_trans H.out.mem.bw k.size
  have hb1 : tn + 1 ≤ maxLen := by simp only at htn; unfold maxLen; omega
  have hb2 : (tn + 1) * 8 ≤ 140737488355328 := by simp only at htn; omega
  have k2 : ∀ o, (W.alloc o).cell? ⟨sb, 3, none⟩ = some (.slice (some ⟨tg, 0, none⟩) tn tc) := fun o => (World.cell?_of_block (a := ⟨sb, 3, none⟩) (w := W) (w' := W.alloc o) (Below.heap_alloc W o sb lsb)).trans c3
  have l2 : ∀ o, (W.alloc o).frozen? ⟨sb, 3, none⟩ = false := fun o => (World.frozen?_of_block (a := ⟨sb, 3, none⟩) (w := W) (w' := W.alloc o) (Below.heap_alloc W o sb lsb)).trans f3
  have HT := Lib.hid ht
  have HK := Lib.hid k
  have R2 := Lib.hid r
  clear ht k r htn
  simp only at c6
  go_region_law (refine step_append_lies _ rfl (.tmp 150) (.tmp 155) 23 rfl B 3 i0 _ 1 8 Tryd.underlying23 hi hz0 hz1 hz2 rfl (by decide) _ tn txs (by rfl) (HT.out.alloc _).drew ⟨W.heap.size, 0, none⟩ 1 1 [.int .i64 (s.col + 1)] (by rfl) (by rfl) (World.news_of_block (cs := #[.int .i64 (s.col + 1)]) (t := 3) (fr := (0, 0)) (heap_alloc_new W _)) (by simp [Value.oneCell']) (by decide) hb1 hb2 (by simp; omega) (W.heap.size + 1) (by simp) ?_; intro g1 cap1 w1 hown1 hgrow1 hat1 hlt1; clear hat1; have HO := Lib.hid hown1; clear hown1; have cc2 : w1.cell? ⟨sb, 3, none⟩ = some (.slice (some ⟨tg, 0, none⟩) tn tc) := (hgrow1.cell_far ⟨sb, 3, none⟩ (by simp; omega) (Ne.symm hne)).trans (by simpa using k2 _); have ff2 : w1.frozen? ⟨sb, 3, none⟩ = false := (hgrow1.frozen_far ⟨sb, 3, none⟩ (by simp; omega) (Ne.symm hne)).trans (by simpa using l2 _))
  all_goals
    go_wp2
    go_end0
    have hs : nextS bs s = { off := s.off + 1, row := s.row, col := s.col + 1, width := 1, curr := 9, errs := s.errs } := by
      unfold nextS; rw [if_pos ho, D.out]; simp [stepErr]
    have hx := R2.out.tabs_grown HK.out H.out.mem.bsb (‹Hid (World.ownsRow _ B 3 1 _ (tn + 1) _)›).out ‹World.grownBy _ _ _› (show tn + 1 ≤ s.off + 1 from by have := R.out.tn; omega)
    refine ⟨rfl, ⟨?_, nextS_ok H.out.ok, H.out.size⟩, hx.2⟩
    rw [hs]
    exact H.out.mem.of_step hx.2 hx.1

end Go.Proofs.YtplljfbbipeakaaDoor
