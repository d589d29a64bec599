/- What memory holds while a scanner runs: the scanner's struct, its tabs, its errors, the text's bytes; and what stays as it was. -/
import Derived.Test.YtplljfbbipeakaaDoorProg
import Derived.Test.YtplljfbbipeakaaDoorSm
import Derived.Test.YtplljfbbipeakaaDoorShelf
import Derived.WalkKit
import Derived.WalkSpells
import Derived.WalkLawsBesides
namespace Go.Proofs.YtplljfbbipeakaaDoor
open Go Go.RowKit

/-- A block that a scanner writes: its struct (88), its tabs (3), its errors (130). -/
def scanTy : Obj → Bool
  | .cells _ t _ => t == 88 || t == 3 || t == 130
  | _ => false

/-- Blocks below B, and all blocks that are of no scanner's kind, are as they were. -/
structure Kept (B : Nat) (w w' : World) : Prop where
  os : w'.os = w.os
  tape : w'.tape = w.tape
  output : w'.output = w.output
  size : w.heap.size ≤ w'.heap.size
  block : ∀ k, k < w.heap.size → (k < B ∨ ∀ o, w.heap[k]? = some o → scanTy o = false) → w'.heap[k]? = w.heap[k]?

theorem Kept.refl (B : Nat) (w : World) : Kept B w w := ⟨rfl, rfl, rfl, Nat.le_refl _, fun _ _ _ => rfl⟩

theorem Kept.trans {B : Nat} {a b c : World} (h : Kept B a b) (g : Kept B b c) : Kept B a c :=
  ⟨g.os.trans h.os, g.tape.trans h.tape, g.output.trans h.output, Nat.le_trans h.size g.size, fun k hk hc => by
    have h1 := h.block k hk hc
    have h2 := g.block k (Nat.lt_of_lt_of_le hk h.size) (by rw [h1]; exact hc)
    exact h2.trans h1⟩

theorem Kept.drewN {B : Nat} {a w : World} (h : Kept B a w) (n : Nat) : Kept B a (w.drewN n) := ⟨h.os, h.tape, h.output, h.size, h.block⟩
theorem Kept.drew {B : Nat} {a w : World} (h : Kept B a w) : Kept B a w.drew := ⟨h.os, h.tape, h.output, h.size, h.block⟩

theorem Kept.alloc {B : Nat} {a w : World} (h : Kept B a w) (o : Obj) : Kept B a (w.alloc o) :=
  h.trans ⟨rfl, rfl, rfl, by simp, fun k hk _ => Below.heap_alloc _ _ _ hk⟩

theorem Kept.setCell {B : Nat} {a w : World} (h : Kept B a w) {p : Addr} {c : Array Value} {t : TypeId} {f : Nat × Nat} (hB : B ≤ p.block) (hp : w.heap[p.block]? = some (.cells c t f)) (ht : scanTy (.cells c t f) = true) (u : Value) : Kept B a (w.setCell p u) :=
  h.trans ⟨rfl, rfl, rfl, by simp [World.setCell], fun k _ hc => Below.heap_setCell _ _ _ _ (fun e => by
    subst e
    rcases hc with hc | hc
    · omega
    · have := hc _ hp; rw [ht] at this; cases this)⟩

theorem Kept.grown {B : Nat} {a w w' : World} {v : Value} {e : TypeId} {size n : Nat} {xs : List Value} (h : Kept B a w) (hg : w.grownBy w' v.ownBlock)
    (ho : w.ownsRow B e size v n xs) (ht : e = 3 ∨ e = 130) : Kept B a w' :=
  h.trans ⟨hg.os, hg.tape, hg.output, hg.size, fun k hk hc => hg.block k hk (fun e' => by
    have h1 := ho.lt k e'.symm
    rcases hc with hc | hc
    · omega
    · rcases ho.2 with ⟨rfl, _⟩ | ⟨g, cap, cur, rfl, _, hh, _⟩
      · simp [Value.ownBlock] at e'
      · simp [Value.ownBlock] at e'
        subst e'
        have := hc _ hh
        rcases ht with rfl | rfl <;> simp [scanTy] at this)⟩

theorem Kept.below {B : Nat} {a w w' : World} (h : Kept B a w) (hb : Below w.heap.size w w') : Kept B a w' :=
  h.trans ⟨hb.os, hb.tape, hb.output, hb.size, fun k hk _ => hb.block k hk⟩

theorem Kept.toBelow {B : Nat} {w w' : World} (h : Kept B w w') (hB : B ≤ w.heap.size) : Below B w w' :=
  ⟨h.os, h.tape, h.output, h.size, fun k hk => h.block k (by omega) (Or.inl hk)⟩

/-- A row of another kind stays owned. -/
theorem Kept.owns {B B' : Nat} {w w' : World} (h : Kept B w w') {e : TypeId} {size n : Nat} {v : Value} {xs : List Value} (ho : w.ownsRow B' e size v n xs) (he : scanTy (.cells #[] e (0, 0)) = false) :
    w'.ownsRow B' e size v n xs := by
  obtain ⟨h1, h2⟩ := ho
  refine ⟨h1, ?_⟩
  rcases h2 with h2 | ⟨g, cap, cur, hv, hg, hh, r⟩
  · exact Or.inl h2
  · refine Or.inr ⟨g, cap, cur, hv, hg, ?_, r⟩
    rw [h.block g (lt_of_block hh) (Or.inr fun o ho' => by rw [hh] at ho'; cases ho'; simpa [scanTy] using he)]
    exact hh

/-! a block of cells behind a store, a draw, a new block -/
theorem row_set {w : World} {b i : Nat} {cs : Array Value} {t : TypeId} {f : Nat × Nat} (v : Value) (h : w.heap[b]? = some (.cells cs t f)) :
    (w.setCell ⟨b, i, none⟩ v).heap[b]? = some (.cells (cs.setIfInBounds i v) t f) := by
  have hlt := lt_of_block h
  have h' : w.heap[b] = .cells cs t f := by simpa [Array.getElem?_eq_getElem hlt] using h
  show (w.heap.modify b _)[b]? = _
  rw [Array.getElem?_eq_getElem (by simpa using hlt), Array.getElem_modify_self, h']
  rfl
theorem row_set_other {w : World} {b i k : Nat} {o : Obj} (v : Value) (hne : k ≠ b) (h : w.heap[k]? = some o) : (w.setCell ⟨b, i, none⟩ v).heap[k]? = some o := by
  rw [Below.heap_setCell _ _ _ _ hne]; exact h
theorem row_alloc {w : World} {k : Nat} {o o' : Obj} (h : w.heap[k]? = some o) : (w.alloc o').heap[k]? = some o := by
  rw [Below.heap_alloc _ _ _ (lt_of_block h)]; exact h
theorem cell_row {w : World} {b : Nat} {cs : Array Value} {t : TypeId} {f : Nat × Nat} (h : w.heap[b]? = some (.cells cs t f)) (i : Nat) (v : Value) (hv : cs[i]? = some v) : w.cell? ⟨b, i, none⟩ = some v := by
  simp [World.cell?, h, hv]
theorem free_row {w : World} {b : Nat} {cs : Array Value} {t : TypeId} (h : w.heap[b]? = some (.cells cs t (0, 0))) (i : Nat) : w.frozen? ⟨b, i, none⟩ = false := by
  simp [World.frozen?, h]
theorem own_ne {w : World} {B : Nat} {e : TypeId} {size n : Nat} {v : Value} {xs : List Value} (ho : w.ownsRow B e size v n xs) {b : Nat} {cs : Array Value} {t : TypeId} {f : Nat × Nat} (h : w.heap[b]? = some (.cells cs t f)) (hne : e ≠ t) : v.ownBlock ≠ some b := by
  rcases ho.2 with ⟨rfl, _⟩ | ⟨g, cap, cur, rfl, _, hh, _⟩
  · simp [Value.ownBlock]
  · simp only [Value.ownBlock]
    intro e'
    cases e'
    rw [hh] at h
    cases h
    exact hne rfl
theorem owns_set {w : World} {base : Nat} {e : TypeId} {size n : Nat} {v : Value} {xs : List Value} (h : w.ownsRow base e size v n xs) {b i : Nat} {cs : Array Value} {t : TypeId} {f : Nat × Nat} (hb : w.heap[b]? = some (.cells cs t f)) (hne : e ≠ t) (u : Value) :
    (w.setCell ⟨b, i, none⟩ u).ownsRow base e size v n xs := ownsRow_setCell_other h (own_ne h hb hne) u
theorem owns_drewN {w : World} {base : Nat} {e : TypeId} {size n : Nat} {v : Value} {xs : List Value} (h : w.ownsRow base e size v n xs) (k : Nat) : (w.drewN k).ownsRow base e size v n xs := h

/-- The bytes of a text, in a block. -/
def BytesAt (bb : Nat) (bs : ByteArray) (w : World) : Prop := ∃ cur f, w.heap[bb]? = some (.cells cur 5 f) ∧ ∀ j, j < bs.size → cur[j]? = some (.int .u8 (bs.get! j).toNat)

theorem BytesAt.cell {bb : Nat} {bs : ByteArray} {w : World} (h : BytesAt bb bs w) (j : Nat) (hj : j < bs.size) : w.cell? ⟨bb, j, none⟩ = some (.int .u8 (bs.get! j).toNat) := by
  obtain ⟨cur, f, h1, h2⟩ := h
  exact cell_row h1 j _ (h2 j hj)

/-- The struct's nine cells. -/
def cellsOf (kb bb n cap : Nat) (ev tv : Value) (s : SS) : Array Value :=
  #[.map (some kb), .slice (some ⟨bb, 0, none⟩) n cap, ev, tv, .int .i64 s.off, .int .i64 s.row, .int .i64 s.col, .int .i64 s.width, .int .i32 s.curr]

/-- The tables of utf8 lie below B. -/
theorem tabs_below {B : Nat} {w w' : World} (hB : 6 ≤ B) (h : Lib.Utf8Tabs 3 4 w) (hb : Below B w w') : Lib.Utf8Tabs 3 4 w' :=
  ⟨fun c hc => (hb.cell (p := ⟨3, c, none⟩) (show 3 < B by omega)).trans (h.1 c hc),
    fun i hi => ⟨(hb.cell (p := ⟨4, 2 * i, none⟩) (show 4 < B by omega)).trans (h.2 i hi).1, (hb.cell (p := ⟨4, 2 * i + 1, none⟩) (show 4 < B by omega)).trans (h.2 i hi).2⟩⟩

theorem bytes_kept {B bb : Nat} {bs : ByteArray} {w w' : World} (h : BytesAt bb bs w) (k : Kept B w w') : BytesAt bb bs w' := by
  obtain ⟨cur, f, h1, h2⟩ := h
  refine ⟨cur, f, ?_, h2⟩
  rw [k.block bb (lt_of_block h1) (Or.inr fun o ho => by rw [h1] at ho; cases ho; rfl)]
  exact h1

/-- THE SCANNER IN MEMORY: its struct in block sb, its keywords in block kb, the text's bytes in block bb; all that it writes from block B on. -/
structure Mem (B sb kb bb : Nat) (bs : ByteArray) (s : SS) (w : World) : Prop where
  b6 : 6 ≤ B
  bw : B ≤ w.heap.size
  bsb : B ≤ sb
  tabs : Lib.Utf8Tabs 3 4 w
  bytes : BytesAt bb bs w
  rows : ∃ cap ev tg tc tn txs exs, w.heap[sb]? = some (.cells (cellsOf kb bb bs.size cap ev (.slice (some ⟨tg, 0, none⟩) tn tc) s) 88 (0, 0)) ∧ bs.size ≤ cap ∧
    w.ownsRow B 130 6 ev s.errs exs ∧ w.ownsRow B 3 1 (.slice (some ⟨tg, 0, none⟩) tn tc) tn txs ∧ tn ≤ s.off

/-- The struct's row, and what is owned, named. -/
structure Rows1 (B sb kb bb : Nat) (bs : ByteArray) (s : SS) (cap : Nat) (ev : Value) (tg tc tn : Nat) (w : World) : Prop where
  blk : w.heap[sb]? = some (.cells (cellsOf kb bb bs.size cap ev (.slice (some ⟨tg, 0, none⟩) tn tc) s) 88 (0, 0))
  cap : bs.size ≤ cap
  errs : ∃ exs, w.ownsRow B 130 6 ev s.errs exs
  tabs : ∃ txs, w.ownsRow B 3 1 (.slice (some ⟨tg, 0, none⟩) tn tc) tn txs
  tn : tn ≤ s.off

theorem Mem.open {B sb kb bb : Nat} {bs : ByteArray} {s : SS} {w : World} (h : Mem B sb kb bb bs s w) : ∃ cap ev tg tc tn, Rows1 B sb kb bb bs s cap ev tg tc tn w := by
  obtain ⟨cap, ev, tg, tc, tn, txs, exs, h1, h2, h3, h4, h5⟩ := h.rows
  exact ⟨cap, ev, tg, tc, tn, h1, h2, ⟨exs, h3⟩, ⟨txs, h4⟩, h5⟩

theorem Mem.of_step {B sb kb bb : Nat} {bs : ByteArray} {s s' : SS} {w w' : World} (h : Mem B sb kb bb bs s w) (k : Kept B w w') {cap : Nat} {ev : Value} {tg tc tn : Nat}
    (r : Rows1 B sb kb bb bs s' cap ev tg tc tn w') : Mem B sb kb bb bs s' w' := by
  obtain ⟨exs, he⟩ := r.errs
  obtain ⟨txs, ht⟩ := r.tabs
  exact ⟨h.b6, Nat.le_trans h.bw k.size, h.bsb, tabs_below h.b6 h.tabs (k.toBelow h.bw), bytes_kept h.bytes k, cap, ev, tg, tc, tn, txs, exs, r.blk, r.cap, he, ht, r.tn⟩

section
variable {B sb kb bb : Nat} {bs : ByteArray} {s : SS} {cap : Nat} {ev : Value} {tg tc tn : Nat} {w : World}
theorem Rows1.set_off (r : Rows1 B sb kb bb bs s cap ev tg tc tn w) (n : Nat) (hn : tn ≤ n) : Rows1 B sb kb bb bs { s with off := n } cap ev tg tc tn (w.setCell ⟨sb, 4, none⟩ (.int .i64 n)) :=
  let ⟨exs, he⟩ := r.errs
  let ⟨txs, ht⟩ := r.tabs
  ⟨row_set _ r.blk, r.cap, ⟨exs, owns_set he r.blk (by decide) _⟩, ⟨txs, owns_set ht r.blk (by decide) _⟩, hn⟩
theorem Rows1.set_row (r : Rows1 B sb kb bb bs s cap ev tg tc tn w) (n : Nat) : Rows1 B sb kb bb bs { s with row := n } cap ev tg tc tn (w.setCell ⟨sb, 5, none⟩ (.int .i64 n)) :=
  let ⟨exs, he⟩ := r.errs
  let ⟨txs, ht⟩ := r.tabs
  ⟨row_set _ r.blk, r.cap, ⟨exs, owns_set he r.blk (by decide) _⟩, ⟨txs, owns_set ht r.blk (by decide) _⟩, r.tn⟩
theorem Rows1.set_col (r : Rows1 B sb kb bb bs s cap ev tg tc tn w) (n : Nat) : Rows1 B sb kb bb bs { s with col := n } cap ev tg tc tn (w.setCell ⟨sb, 6, none⟩ (.int .i64 n)) :=
  let ⟨exs, he⟩ := r.errs
  let ⟨txs, ht⟩ := r.tabs
  ⟨row_set _ r.blk, r.cap, ⟨exs, owns_set he r.blk (by decide) _⟩, ⟨txs, owns_set ht r.blk (by decide) _⟩, r.tn⟩
theorem Rows1.set_width (r : Rows1 B sb kb bb bs s cap ev tg tc tn w) (n : Nat) : Rows1 B sb kb bb bs { s with width := n } cap ev tg tc tn (w.setCell ⟨sb, 7, none⟩ (.int .i64 n)) :=
  let ⟨exs, he⟩ := r.errs
  let ⟨txs, ht⟩ := r.tabs
  ⟨row_set _ r.blk, r.cap, ⟨exs, owns_set he r.blk (by decide) _⟩, ⟨txs, owns_set ht r.blk (by decide) _⟩, r.tn⟩
theorem Rows1.set_curr (r : Rows1 B sb kb bb bs s cap ev tg tc tn w) (c : Int) : Rows1 B sb kb bb bs { s with curr := c } cap ev tg tc tn (w.setCell ⟨sb, 8, none⟩ (.int .i32 c)) :=
  let ⟨exs, he⟩ := r.errs
  let ⟨txs, ht⟩ := r.tabs
  ⟨row_set _ r.blk, r.cap, ⟨exs, owns_set he r.blk (by decide) _⟩, ⟨txs, owns_set ht r.blk (by decide) _⟩, r.tn⟩
theorem Rows1.drewN (r : Rows1 B sb kb bb bs s cap ev tg tc tn w) (n : Nat) : Rows1 B sb kb bb bs s cap ev tg tc tn (w.drewN n) := ⟨r.blk, r.cap, r.errs, r.tabs, r.tn⟩
theorem Rows1.drew (r : Rows1 B sb kb bb bs s cap ev tg tc tn w) : Rows1 B sb kb bb bs s cap ev tg tc tn w.drew := ⟨r.blk, r.cap, r.errs, r.tabs, r.tn⟩
/-- New tabs, owned in the world at hand. -/
theorem Rows1.set_tabs (r : Rows1 B sb kb bb bs s cap ev tg tc tn w) {tg' tc' tn' : Nat} {txs : List Value} (ht : w.ownsRow B 3 1 (.slice (some ⟨tg', 0, none⟩) tn' tc') tn' txs) (hn : tn' ≤ s.off) :
    Rows1 B sb kb bb bs s cap ev tg' tc' tn' (w.setCell ⟨sb, 3, none⟩ (.slice (some ⟨tg', 0, none⟩) tn' tc')) :=
  let ⟨exs, he⟩ := r.errs
  ⟨row_set _ r.blk, r.cap, ⟨exs, owns_set he r.blk (by decide) _⟩, ⟨txs, owns_set ht r.blk (by decide) _⟩, hn⟩
/-- 'tabs[:0]' -/
theorem Rows1.no_tabs (r : Rows1 B sb kb bb bs s cap ev tg tc tn w) : w.ownsRow B 3 1 (.slice (some ⟨tg, 0, none⟩) 0 tc) 0 [] := by
  obtain ⟨txs, h1, h2⟩ := r.tabs
  refine ⟨by simp, Or.inr ?_⟩
  rcases h2 with ⟨e, _⟩ | ⟨g, cap', cur, e, hg, hh, _, hm, hs, _⟩
  · cases e
  · cases e
    exact ⟨tg, tc, cur, rfl, hg, hh, Nat.zero_le _, hm, hs, by simp⟩
/-- New errors, owned in the world at hand. -/
theorem Rows1.set_errs (r : Rows1 B sb kb bb bs s cap ev tg tc tn w) {ev' : Value} {en : Nat} {exs : List Value} (he : w.ownsRow B 130 6 ev' en exs) :
    Rows1 B sb kb bb bs { s with errs := en } cap ev' tg tc tn (w.setCell ⟨sb, 2, none⟩ ev') :=
  let ⟨txs, ht⟩ := r.tabs
  ⟨row_set _ r.blk, r.cap, ⟨exs, owns_set he r.blk (by decide) _⟩, ⟨txs, owns_set ht r.blk (by decide) _⟩, r.tn⟩
theorem Rows1.keptSet (r : Rows1 B sb kb bb bs s cap ev tg tc tn w) (hB : B ≤ sb) {a : World} (h : Kept B a w) (i : Nat) (u : Value) : Kept B a (w.setCell ⟨sb, i, none⟩ u) :=
  h.setCell (p := ⟨sb, i, none⟩) hB r.blk rfl u

theorem Rows1.c0 (r : Rows1 B sb kb bb bs s cap ev tg tc tn w) : w.cell? ⟨sb, 0, none⟩ = some (.map (some kb)) := cell_row r.blk 0 _ rfl
theorem Rows1.c1 (r : Rows1 B sb kb bb bs s cap ev tg tc tn w) : w.cell? ⟨sb, 1, none⟩ = some (.slice (some ⟨bb, 0, none⟩) bs.size cap) := cell_row r.blk 1 _ rfl
theorem Rows1.c2 (r : Rows1 B sb kb bb bs s cap ev tg tc tn w) : w.cell? ⟨sb, 2, none⟩ = some ev := cell_row r.blk 2 _ rfl
theorem Rows1.c3 (r : Rows1 B sb kb bb bs s cap ev tg tc tn w) : w.cell? ⟨sb, 3, none⟩ = some (.slice (some ⟨tg, 0, none⟩) tn tc) := cell_row r.blk 3 _ rfl
theorem Rows1.c4 (r : Rows1 B sb kb bb bs s cap ev tg tc tn w) : w.cell? ⟨sb, 4, none⟩ = some (.int .i64 s.off) := cell_row r.blk 4 _ rfl
theorem Rows1.c5 (r : Rows1 B sb kb bb bs s cap ev tg tc tn w) : w.cell? ⟨sb, 5, none⟩ = some (.int .i64 s.row) := cell_row r.blk 5 _ rfl
theorem Rows1.c6 (r : Rows1 B sb kb bb bs s cap ev tg tc tn w) : w.cell? ⟨sb, 6, none⟩ = some (.int .i64 s.col) := cell_row r.blk 6 _ rfl
theorem Rows1.c7 (r : Rows1 B sb kb bb bs s cap ev tg tc tn w) : w.cell? ⟨sb, 7, none⟩ = some (.int .i64 s.width) := cell_row r.blk 7 _ rfl
theorem Rows1.c8 (r : Rows1 B sb kb bb bs s cap ev tg tc tn w) : w.cell? ⟨sb, 8, none⟩ = some (.int .i32 s.curr) := cell_row r.blk 8 _ rfl
theorem Rows1.f (r : Rows1 B sb kb bb bs s cap ev tg tc tn w) (i : Nat) : w.frozen? ⟨sb, i, none⟩ = false := free_row r.blk i
end

/-- A scanner whose numbers are in their bounds. -/
structure Scn (B sb kb bb : Nat) (bs : ByteArray) (s : SS) (w : World) : Prop where
  mem : Mem B sb kb bb bs s w
  ok : s.Ok bs.size
  size : bs.size ≤ 274877906944

/-- What a call of one of the scanner's methods leaves. -/
def Left (B sb kb bb : Nat) (bs : ByteArray) (s' : SS) (v : Value) (w : World) (e : Ending) (w' : World) : Prop :=
  e = .returned v ∧ Scn B sb kb bb bs s' w' ∧ Kept B w w'

end Go.Proofs.YtplljfbbipeakaaDoor
