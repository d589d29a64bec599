/- impl.scan: what it is handed, what stays, what its loops do. impl.scan, walked. impl.Scan, impl.ScanAll, impl.Keyword, impl.IsKeyword, laws.works, walked. -/
import Derived.Test.YtplljfbbipeakaaDoorNew1
import Derived.Test.YtplljfbbipeakaaDoorScanA
import Derived.Test.YtplljfbbipeakaaDoorPl1
import Derived.Deep.AppendLies
import Derived.Maps.AppendAt
import Derived.Test.YtplljfbbipeakaaDoorScanZ
import Derived.Deep.RegionHeld3
import Derived.Deep.QuietTactic
import Derived.BigQuiet
namespace Go.Proofs.YtplljfbbipeakaaDoor
open Go Go.RowKit Go.Maps Go.WideMaps Go.WideElems

/-- A []string that is handed on: its words. -/
def StrsAt (v : Value) (ms : List (List UInt8)) (w : World) : Prop :=
  ∃ ao c, v = .slice ao ms.length c ∧ ∀ j, j < ms.length → ∃ a, ao = some a ∧ a.block < w.heap.size ∧ w.cell? (a.add j) = some (.string ⟨(ms.getD j []).toArray⟩)

theorem StrsAt.nil (w : World) : StrsAt (.slice none 0 0) [] w := ⟨none, 0, rfl, fun j hj => by cases hj⟩
theorem Addr.add_block (a : Addr) (j : Nat) : (a.add j).block = a.block := by unfold Addr.add; split <;> rfl

theorem StrsAt.below {v : Value} {ms : List (List UInt8)} {w w' : World} (h : StrsAt v ms w) (hb : Below w.heap.size w w') : StrsAt v ms w' := by
  obtain ⟨ao, c, h1, h2⟩ := h
  refine ⟨ao, c, h1, fun j hj => ?_⟩
  obtain ⟨a, e, h3, h4⟩ := h2 j hj
  exact ⟨a, e, Nat.lt_of_lt_of_le h3 hb.size, (hb.cell (p := a.add j) (by rw [Addr.add_block]; exact h3)).trans h4⟩

/-- The keywords behind the words of a list. -/
def kwStep (p : (List UInt8 → Bool) × (List UInt8 → Int)) (m : List UInt8) : (List UInt8 → Bool) × (List UInt8 → Int) :=
  match kwOf m with
  | some k => (addH p.1 m k, addT p.2 m k)
  | none => p
def kwAll (kh : List UInt8 → Bool) (kt : List UInt8 → Int) (ms : List (List UInt8)) : (List UInt8 → Bool) × (List UInt8 → Int) := ms.foldl kwStep (kh, kt)

theorem kwAll_take {kh : List UInt8 → Bool} {kt : List UInt8 → Int} {ms : List (List UInt8)} {k : Nat} (h : k < ms.length) : kwAll kh kt (ms.take (k + 1)) = kwStep (kwAll kh kt (ms.take k)) (ms.getD k []) := by
  unfold kwAll
  rw [List.take_succ_eq_append_getElem h, List.foldl_append, List.getD_eq_getElem?_getD, List.getElem?_eq_getElem h]
  rfl

/-! a map's block is no scanner's -/
theorem own_ne_map {w : World} {B : Nat} {e : TypeId} {size n : Nat} {v : Value} {xs : List Value} (ho : w.ownsRow B e size v n xs) {b : Nat} {es : Array MapEntry} {c : Nat} (h : w.heap[b]? = some (.map es c)) : v.ownBlock ≠ some b := by
  rcases ho.2 with ⟨rfl, _⟩ | ⟨g, cap, cur, rfl, _, hh, _⟩
  · simp [Value.ownBlock]
  · simp only [Value.ownBlock]
    intro e'
    cases e'
    rw [hh] at h
    cases h

theorem Kws.block {kb n : Nat} {kh : List UInt8 → Bool} {kt : List UInt8 → Int} {w : World} (h : KwsN kb n kh kt w) : ∃ es c, w.heap[kb]? = some (.map es c) := by
  obtain ⟨D, ⟨es, clock, hb, _⟩, _⟩ := h
  exact ⟨es, clock, hb⟩

theorem Scn.map_grown {B sb kb bb : Nat} {bs : ByteArray} {s : SS} {w w' : World} (h : Scn B sb kb bb bs s w) (hk : ∃ es c, w.heap[kb]? = some (.map es c)) (hB : B ≤ kb) (g : w.grownBy w' (some kb)) : Scn B sb kb bb bs s w' := by
  obtain ⟨es, cc, hk⟩ := hk
  have hbl : Below B w w' := (Below.refl B w).grown g h.mem.bw (fun k e => by cases e; exact hB)
  obtain ⟨cap, ev, tg, tc, tn, txs, exs, r1, r2, r3, r4, r5⟩ := h.mem.rows
  obtain ⟨cur, f, b1, b2⟩ := h.mem.bytes
  have n1 : sb ≠ kb := fun e => by subst e; rw [r1] at hk; cases hk
  have n2 : bb ≠ kb := fun e => by subst e; rw [b1] at hk; cases hk
  refine ⟨⟨h.mem.b6, Nat.le_trans h.mem.bw g.size, h.mem.bsb, tabs_below h.mem.b6 h.mem.tabs hbl, ⟨cur, f, ?_, b2⟩, cap, ev, tg, tc, tn, txs, exs, ?_, r2, r3.kept g (Or.inr (own_ne_map r3 hk)), r4.kept g (Or.inr (own_ne_map r4 hk)), r5⟩, h.ok, h.size⟩
  · rw [g.block bb (lt_of_block b1) (fun e => n2 (Option.some.inj e))]; exact b1
  · rw [g.block sb (lt_of_block r1) (fun e => n1 (Option.some.inj e))]; exact r1

/-- A row of tokens grows: the scanner stays. -/
theorem Scn.tok_grown {B sb kb bb : Nat} {bs : ByteArray} {s : SS} {w w' : World} {l : Value} {n : Nat} {xs : List Value} (h : Scn B sb kb bb bs s w) (ho : w.ownsRow B 40 6 l n xs) (g : w.grownBy w' l.ownBlock) : Scn B sb kb bb bs s w' := by
  have hbl : Below B w w' := (Below.refl B w).grown g h.mem.bw (fun k e => (ho.lt k e).1)
  obtain ⟨cap, ev, tg, tc, tn, txs, exs, r1, r2, r3, r4, r5⟩ := h.mem.rows
  obtain ⟨cur, f, b1, b2⟩ := h.mem.bytes
  have n1 := own_ne ho r1 (by decide)
  have n2 := own_ne ho b1 (by decide)
  have hk : ∀ {e : TypeId} {sz m : Nat} {v : Value} {ys : List Value}, w.ownsRow B e sz v m ys → e ≠ 40 → v.ownBlock = none ∨ v.ownBlock ≠ l.ownBlock := by
    intro e sz m v ys hv he
    rcases hv.2 with ⟨rfl, _⟩ | ⟨g', cap', cur', rfl, _, hh, _⟩
    · exact Or.inl rfl
    · exact Or.inr (fun e' => own_ne ho hh (Ne.symm he) (by rw [← e']; rfl))
  refine ⟨⟨h.mem.b6, Nat.le_trans h.mem.bw g.size, h.mem.bsb, tabs_below h.mem.b6 h.mem.tabs hbl, ⟨cur, f, ?_, b2⟩, cap, ev, tg, tc, tn, txs, exs, ?_, r2, r3.kept g (hk r3 (by decide)), r4.kept g (hk r4 (by decide)), r5⟩, h.ok, h.size⟩
  · rw [g.block bb (lt_of_block b1) (fun e => n2 e.symm)]; exact b1
  · rw [g.block sb (lt_of_block r1) (fun e => n1 e.symm)]; exact r1

theorem Scn.alloc {B sb kb bb : Nat} {bs : ByteArray} {s : SS} {w : World} (h : Scn B sb kb bb bs s w) (o : Obj) : Scn B sb kb bb bs s (w.alloc o) := by
  have hbl : Below B w (w.alloc o) := (Below.refl B w).alloc h.mem.bw _
  obtain ⟨cap, ev, tg, tc, tn, txs, exs, r1, r2, r3, r4, r5⟩ := h.mem.rows
  obtain ⟨cur, f, b1, b2⟩ := h.mem.bytes
  exact ⟨⟨h.mem.b6, Nat.le_trans h.mem.bw hbl.size, h.mem.bsb, tabs_below h.mem.b6 h.mem.tabs hbl, ⟨cur, f, row_alloc b1, b2⟩, cap, ev, tg, tc, tn, txs, exs, row_alloc r1, r2, r3.alloc _, r4.alloc _, r5⟩, h.ok, h.size⟩

theorem KwsN.alloc {kb n : Nat} {kh : List UInt8 → Bool} {kt : List UInt8 → Int} {w : World} (h : KwsN kb n kh kt w) (o : Obj) : KwsN kb n kh kt (w.alloc o) := h.kept ((Kept.refl 0 w).alloc o)
theorem KwsN.tok_grown {B kb m : Nat} {kh : List UInt8 → Bool} {kt : List UInt8 → Int} {w w' : World} {l : Value} {n : Nat} {xs : List Value} (h : KwsN kb m kh kt w) (ho : w.ownsRow B 40 6 l n xs) (g : w.grownBy w' l.ownBlock) : KwsN kb m kh kt w' := by
  obtain ⟨D, ⟨es, clock, hb, F, hs, hD⟩, hv⟩ := h
  refine ⟨D, ⟨es, clock, ?_, F, hs, hD⟩, hv⟩
  rw [g.block kb (lt_of_block hb) (fun e => own_ne_map ho hb e.symm)]
  exact hb

theorem Scn.c0 {B sb kb bb : Nat} {bs : ByteArray} {s : SS} {w : World} (h : Scn B sb kb bb bs s w) : w.cell? ⟨sb, 0, none⟩ = some (.map (some kb)) := by
  obtain ⟨cap, ev, tg, tc, tn, txs, exs, r1, _⟩ := h.mem.rows
  exact cell_row r1 0 _ rfl
theorem Scn.ne_map {B sb kb bb n : Nat} {bs : ByteArray} {s : SS} {kh : List UInt8 → Bool} {kt : List UInt8 → Int} {w : World} (h : Scn B sb kb bb bs s w) (hk : KwsN kb n kh kt w) : sb ≠ kb := by
  obtain ⟨cap, ev, tg, tc, tn, txs, exs, r1, _⟩ := h.mem.rows
  obtain ⟨es, c, hb⟩ := Kws.block hk
  intro e; subst e; rw [r1] at hb; cases hb

theorem kwOf_range {l : List UInt8} {k : Int} (h : kwOf l = some k) : 0 ≤ k ∧ k ≤ 255 := by
  unfold kwOf at h
  repeat' split at h
  all_goals (cases h; try decide)

/-- Where the loop over the added words stands. -/
structure MoreAt (B sb kb bb : Nat) (bs : ByteArray) (s : SS) (kh : List UInt8 → Bool) (kt : List UInt8 → Int) (w0 : World) (ms : List (List UInt8)) (k : Nat) (wr : World) : Prop where
  le : k ≤ ms.length
  scn : Scn B sb kb bb bs s wr
  kws : KwsN kb (50 + 2 * k) (kwAll kh kt (ms.take k)).1 (kwAll kh kt (ms.take k)).2 wr
  below : Below B w0 wr

theorem MoreAt.skip {B sb kb bb : Nat} {bs : ByteArray} {s : SS} {kh : List UInt8 → Bool} {kt : List UInt8 → Int} {w0 : World} {ms : List (List UInt8)} {k : Nat} {wr : World} (h : MoreAt B sb kb bb bs s kh kt w0 ms k wr) (hk : k < ms.length) (hn : kwOf (ms.getD k []) = none) :
    MoreAt B sb kb bb bs s kh kt w0 ms (k + 1) wr := by
  refine ⟨hk, h.scn, ?_, h.below⟩
  have e : kwAll kh kt (ms.take (k + 1)) = kwAll kh kt (ms.take k) := by rw [kwAll_take hk]; unfold kwStep; rw [hn]
  rw [e]
  obtain ⟨D, h1, h2⟩ := h.kws
  exact ⟨D, h1.mono (by omega), h2⟩

theorem MoreAt.add {B sb kb bb : Nat} {bs : ByteArray} {s : SS} {kh : List UInt8 → Bool} {kt : List UInt8 → Int} {w0 : World} {ms : List (List UInt8)} {k : Nat} {wr w' : World} {i : Int} (h : MoreAt B sb kb bb bs s kh kt w0 ms k wr) (hB : B ≤ kb) (hk : k < ms.length) (hn : kwOf (ms.getD k []) = some i)
    (hw : KwsN kb (50 + 2 * k + 2) (addH (kwAll kh kt (ms.take k)).1 (ms.getD k []) i) (addT (kwAll kh kt (ms.take k)).2 (ms.getD k []) i) w') (g : wr.grownBy w' (some kb)) :
    MoreAt B sb kb bb bs s kh kt w0 ms (k + 1) w' := by
  refine ⟨hk, h.scn.map_grown (Kws.block h.kws) hB g, ?_, h.below.grown g h.scn.mem.bw (fun j e => by cases e; exact hB)⟩
  have e : kwAll kh kt (ms.take (k + 1)) = (addH (kwAll kh kt (ms.take k)).1 (ms.getD k []) i, addT (kwAll kh kt (ms.take k)).2 (ms.getD k []) i) := by rw [kwAll_take hk]; unfold kwStep; rw [hn]
  rw [e]
  obtain ⟨D, h1, h2⟩ := hw
  exact ⟨D, h1.mono (by omega), h2⟩

/-! tokens that are kept -/
def TI.cells (t : TI) : List Value := [.int .i64 t.tk, .string t.lit, .int .i64 t.start, .int .i64 t.stop, .int .i64 t.s.row, .int .i64 t.s.col]
def keepB (white : Bool) (t : TI) : Bool := white || decide (t.tk ≠ 2)
def kept (white : Bool) (ts : List TI) : List TI := ts.filter (keepB white)
def cellsL (ts : List TI) : List Value := ts.flatMap TI.cells
def errsL (ts : List TI) : Nat := (ts.map (fun t => t.s'.errs)).sum

/-- What impl.scan leaves. -/
def ImpPost (B : Nat) (ts : List TI) (white : Bool) (w : World) (e : Ending) (w' : World) : Prop :=
  ∃ v, e = .returned (.tuple #[v, .int .i64 (errsL ts : Nat), .bool true]) ∧ w'.ownsRow B 40 6 v (kept white ts).length (cellsL (kept white ts)) ∧ Below B w w'

theorem kept_le (white : Bool) (ts : List TI) : (kept white ts).length ≤ ts.length := List.length_filter_le _ _
theorem info40 : (Tryd.prog.info? 40).map (fun i => (i.zero, i.size, i.bytes)) = some (some (.agg #[.int .i64 0, .string .empty, .int .i64 0, .int .i64 0, .int .i64 0, .int .i64 0]), 6, 56) := by kernel_rfl
theorem cells_one (t : TI) : ∀ u ∈ t.cells, u.oneCell' = true := by
  intro u hu
  simp only [TI.cells, List.mem_cons, List.not_mem_nil, or_false] at hu
  rcases hu with rfl | rfl | rfl | rfl | rfl | rfl <;> rfl
/-- A token's block, and its cells, in the walk's spelling. -/
abbrev posObj (t : TI) (ta : Option Addr) (tn tc : Nat) : Obj := .cells #[.slice ta tn tc, .int .i64 ((t.s.off : Int) - (t.s.width : Int)), .int .i64 ((t.s'.off : Int) - (t.s'.width : Int)), .int .i64 t.s.row, .int .i64 t.s.col] 77
abbrev tokObj (t : TI) (k : Int) : Obj := .cells #[.int .i64 k, .string t.lit, .int .i64 ((t.s.off : Int) - (t.s.width : Int)), .int .i64 ((t.s'.off : Int) - (t.s'.width : Int)), .int .i64 t.s.row, .int .i64 t.s.col] 40
theorem tok_news (t : TI) {k : Int} (hk : t.tk = k) (W : World) (o : Obj) : ∀ j u, t.cells[j]? = some u → ((W.alloc o).alloc (tokObj t k)).cell? ((⟨W.heap.size + 1, 0, none⟩ : Addr).add j) = some u := by
  subst hk
  have h := heap_alloc_new (W.alloc o) (tokObj t t.tk)
  rw [World.size_alloc] at h
  exact World.news_of_block (cs := #[.int .i64 t.tk, .string t.lit, .int .i64 ((t.s.off : Int) - (t.s.width : Int)), .int .i64 ((t.s'.off : Int) - (t.s'.width : Int)), .int .i64 t.s.row, .int .i64 t.s.col]) (t := 40) (fr := (0, 0)) h

/-- Where the loop over the tokens stands. -/
structure ImpRel (B sb kb bb N : Nat) (bs : ByteArray) (kh : List UInt8 → Bool) (kt : List UInt8 → Int) (white : Bool) (w0 : World) (e : SS) (done rest : List TI) (s : SS) (l : Value) (wr : World) : Prop where
  scn : Scn B sb kb bb bs s wr
  kws : KwsN kb N kh kt wr
  below : Below B w0 wr
  own : wr.ownsRow B 40 6 l (kept white done).length (cellsL (kept white done))
  chain : Chain kh kt bs s rest e

theorem kept_snoc (white : Bool) (done : List TI) (t : TI) : kept white (done ++ [t]) = kept white done ++ (if keepB white t = true then [t] else []) := by
  unfold kept; rw [List.filter_append]; congr 1; rw [List.filter_cons]; rfl
theorem cellsL_app (a b : List TI) : cellsL (a ++ b) = cellsL a ++ cellsL b := List.flatMap_append
theorem errsL_snoc (a : List TI) (t : TI) : errsL (a ++ [t]) = errsL a + t.s'.errs := by simp [errsL]
theorem errsL_le (a b : List TI) : errsL a ≤ errsL (a ++ b) := by simp [errsL]

section
variable {B sb kb bb N : Nat} {bs : ByteArray} {kh : List UInt8 → Bool} {kt : List UInt8 → Int} {white : Bool} {w0 : World} {e : SS} {done rest : List TI} {s : SS} {l : Value} {wr : World}

/-- Behind Scan and the token's own block. -/
theorem ImpRel.scanned {t : TI} {w' : World} (h : ImpRel B sb kb bb N bs kh kt white w0 e done (t :: rest) s l wr) (hs : Scn B sb kb bb bs t.s'.clr w') (hk : Kept B wr w') (o : Obj) :
    Scn B sb kb bb bs t.s'.clr (w'.alloc o) ∧ KwsN kb N kh kt (w'.alloc o) ∧ Below B w0 (w'.alloc o) ∧ (w'.alloc o).ownsRow B 40 6 l (kept white done).length (cellsL (kept white done)) := by
  refine ⟨hs.alloc o, (h.kws.kept hk).alloc o, ?_, (hk.owns h.own rfl).alloc o⟩
  exact (h.below.trans (hk.toBelow h.scn.mem.bw)).alloc hs.mem.bw _

theorem ImpRel.end_scanned {t : TI} {w' : World} (h : ImpRel B sb kb bb N bs kh kt white w0 e done [] s l wr) (hs : Scn B sb kb bb bs t.s'.clr w') (hk : Kept B wr w') (o : Obj) :
    Scn B sb kb bb bs t.s'.clr (w'.alloc o) ∧ KwsN kb N kh kt (w'.alloc o) ∧ Below B w0 (w'.alloc o) ∧ (w'.alloc o).ownsRow B 40 6 l (kept white done).length (cellsL (kept white done)) := by
  refine ⟨hs.alloc o, (h.kws.kept hk).alloc o, ?_, (hk.owns h.own rfl).alloc o⟩
  exact (h.below.trans (hk.toBelow h.scn.mem.bw)).alloc hs.mem.bw _

theorem q_alloc {s2 : SS} {w1 : World} {n : Nat} {xs : List Value} (q : Scn B sb kb bb bs s2 w1 ∧ KwsN kb N kh kt w1 ∧ Below B w0 w1 ∧ w1.ownsRow B 40 6 l n xs) (o : Obj) :
    Scn B sb kb bb bs s2 (w1.alloc o) ∧ KwsN kb N kh kt (w1.alloc o) ∧ Below B w0 (w1.alloc o) ∧ (w1.alloc o).ownsRow B 40 6 l n xs :=
  ⟨q.1.alloc o, q.2.1.alloc o, q.2.2.1.alloc q.1.mem.bw _, q.2.2.2.alloc o⟩

theorem ImpRel.next {t : TI} {w1 : World} (h : Chain kh kt bs s (t :: rest) e) (hk : keepB white t = false) (q : Scn B sb kb bb bs t.s'.clr w1 ∧ KwsN kb N kh kt w1 ∧ Below B w0 w1 ∧ w1.ownsRow B 40 6 l (kept white done).length (cellsL (kept white done))) :
    ImpRel B sb kb bb N bs kh kt white w0 e (done ++ [t]) rest t.s'.clr l w1 := by
  refine ⟨q.1, q.2.1, q.2.2.1, ?_, h.2.2.2⟩
  rw [kept_snoc, if_neg (by rw [hk]; decide), List.append_nil]
  exact q.2.2.2

theorem ImpRel.keep {t : TI} {w1 w2 : World} {l2 : Value} (h : Chain kh kt bs s (t :: rest) e) (hk : keepB white t = true) (q : Scn B sb kb bb bs t.s'.clr w1 ∧ KwsN kb N kh kt w1 ∧ Below B w0 w1 ∧ w1.ownsRow B 40 6 l (kept white done).length (cellsL (kept white done)))
    (ho : w2.ownsRow B 40 6 l2 ((kept white done).length + 1) (cellsL (kept white done) ++ t.cells)) (g : w1.grownBy w2 l.ownBlock) :
    ImpRel B sb kb bb N bs kh kt white w0 e (done ++ [t]) rest t.s'.clr l2 w2 := by
  refine ⟨q.1.tok_grown q.2.2.2 g, q.2.1.tok_grown q.2.2.2 g, q.2.2.1.grown g q.1.mem.bw (fun k e => (q.2.2.2.lt k e).1), ?_, h.2.2.2⟩
  rw [kept_snoc, if_pos hk, List.length_append, cellsL_app]
  simpa [cellsL] using ho
end

end Go.Proofs.YtplljfbbipeakaaDoor

namespace Go.Proofs.YtplljfbbipeakaaDoor
open Go Go.RowKit Go.Maps Go.WideMaps Go.WideElems

set_option maxHeartbeats 4000000 in
set_option maxRecDepth 100000 in
theorem implScan_walk {kh : List UInt8 → Bool} {kt : List UInt8 → Int} {bs : ByteArray} {mv : Value} {ms : List (List UInt8)} {white : Bool} {w : World} {ts : List TI} {te : TI}
    (hB : Base w.heap.size kh kt w) (hsz : bs.size ≤ 274877906944) (hM : StrsAt mv ms w) (hml : ms.length ≤ 4294967296) (hmw : ∀ m ∈ ms, m.length ≤ maxLen)
    (hC : Chain (kwAll kh kt ms).1 (kwAll kh kt ms).2 bs (sNew bs) ts te.s) (hT : Tok (kwAll kh kt ms).1 (kwAll kh kt ms).2 bs te.s te.s' te.tk te.lit) (hte : te.tk = 1) (hlen : ts.length ≤ 2 * bs.size + 7)
    (hrange : ∀ t ∈ ts ++ [te], 0 ≤ t.tk ∧ t.tk ≤ 255) (herr : errsL (ts ++ [te]) ≤ 1152921504606846976) :
    Calls Tryd.prog 33 #[.string bs, mv, .bool white] w (ImpPost w.heap.size (ts ++ [te]) white w) := by
  have HB := Lib.hid hB
  have HM := Lib.hid hM
  have HMW := Lib.hid hmw
  have HC := Lib.hid hC
  have HT := Lib.hid hT
  have HTE := Lib.hid hte
  have HRG := Lib.hid hrange
  clear hB hM hmw hC hT hte hrange
  go_enter Tryd.func33, Tryd.ntmps33
  go_wp2_with fail
  refine (newReader_walk bs w).mono ?_
  rintro e w1 ⟨rfl, e1⟩
  have hr := heap_alloc_new w (.cells #[.string bs, .int .i64 0, .int .i64 (-1)] 90)
  have hb1 : Below w.heap.size w (w.alloc (.cells #[.string bs, .int .i64 0, .int .i64 (-1)] 90)) := (Below.refl _ _).alloc (Nat.le_refl _) _
  rw [e1] at hr hb1
  have hB1 := HB.out.below hb1
  have HR := Lib.hid hr
  have HB1 := Lib.hid hB1
  have Hb1 := Lib.hid hb1
  clear e1 hr hb1 hB1
  go_wp2_with fail
  refine (new_walk HB1.out (Nat.le_refl _) HR.out hsz).mono ?_
  rintro e w2 ⟨sb, kb, bb, rfl, hS, hK, hkb, hb2⟩
  have hA : MoreAt w.heap.size sb kb bb bs (sNew bs) kh kt w ms 0 w2 := ⟨Nat.zero_le _, hS, hK, Hb1.out.trans hb2⟩
  have HA := Lib.hid hA
  obtain ⟨ao, mc, rfl, hM2⟩ := HM.out
  have hM2 := Lib.hid hM2
  clear hS hK hb2 hA
  go_wp2_with fail
  go_loopg [30] ms.length (fun g i wr => g ≤ ms.length ∧ i = .int .i64 ((ms.length - g : Nat) : Int) ∧ MoreAt w.heap.size sb kb bb bs (sNew bs) kh kt w ms (ms.length - g) wr)
  case atStart => exact ⟨Nat.le_refl _, by simp, by rw [Nat.sub_self]; exact HA.out⟩
  case round =>
    obtain ⟨hg, rfl, hA⟩ := hrel
    have HA := Lib.hid hA
    clear hA
    cases gk with
    | zero =>
      go_wp2_with fail
      have h0 : ImpRel w.heap.size sb kb bb (50 + 2 * ms.length) bs (kwAll kh kt ms).1 (kwAll kh kt ms).2 white w te.s [] ts (sNew bs) (.slice none 0 0) wr := by
        have h := HA.out
        rw [Nat.sub_zero] at h
        have hk := h.kws
        rw [List.take_length] at hk
        exact ⟨h.scn, hk, h.below, ⟨rfl, Or.inl ⟨rfl, rfl⟩⟩, HC.out⟩
      have H0 := Lib.hid h0
      clear h0 HA
      generalize (kwAll kh kt ms).1 = kh2 at *
      generalize (kwAll kh kt ms).2 = kt2 at *
      go_loopg [6, 7, 49] ts.length (fun g l er i wr => ∃ (done rest : List TI) (s : SS), Hid (ts = done ++ rest) ∧ g = rest.length ∧ done.length + rest.length ≤ 2 * bs.size + 7 ∧ i = .int .i64 (done.length : Nat) ∧ er = .int .i64 (errsL done : Nat) ∧ ImpRel w.heap.size sb kb bb (50 + 2 * ms.length) bs kh2 kt2 white w te.s done rest s l wr)
      case atStart => exact ⟨[], ts, sNew bs, Lib.hid rfl, rfl, by simpa using hlen, rfl, rfl, H0.out⟩
      case round =>
        obtain ⟨done, rest, s, HTS, hg, hdl, rfl, rfl, hI⟩ := hrel
        have HI := Lib.hid hI
        clear hI
        have hkl := kept_le white done
        have hm0 : (kept white done).length + 1 ≤ maxLen := by unfold maxLen; omega
        have hbt0 : ((kept white done).length + 1) * 56 ≤ 140737488355328 := by omega
        obtain ⟨i0, hi, hz0, hz1, hz2⟩ := info_parts info40
        cases rest with
        | nil =>
          have hch := HI.out.chain
          have ets : s = te.s := hch
          subst ets
          have hsc := scan_any HI.out.scn (HI.out.kws.kws (by omega)) HT.out
          have hrt := HRG.out te (by simp)
          have hts : ts = done := by rw [HTS.out, List.append_nil]
          have her : errsL (ts ++ [te]) = errsL done + te.s'.errs := by rw [hts, errsL_snoc]
          have her2 : (errsL done : Int) + (te.s'.errs : Int) ≤ 1152921504606846976 := by omega
          have HER := Lib.hid her
          have HTS2 := Lib.hid hts
          have hq1 : (te.tk == 1) = true := by rw [HTE.out]; rfl
          have hq2 : (te.tk == 2) = false := by rw [HTE.out]; rfl
          have hq2' : (te.tk != 2) = true := by rw [HTE.out]; rfl
          have hkp : keepB white te = true := by unfold keepB; rw [HTE.out]; cases white <;> rfl
          have HKP := Lib.hid hkp
          have HSC := Lib.hid hsc
          clear hsc hch hkp hts her
          have hdl2 : (done.length : Int) < 2 * (bs.size : Int) + 8 := by simp only [List.length_nil] at hdl; omega
          go_wp2_with fail
          refine HSC.out.mono ?_
          rintro e w5 ⟨ta, tn, tc, ea, ec, rfl, hs5, hk5⟩
          have hq0 := HI.out.end_scanned hs5 hk5 (posObj te ta tn tc)
          have HQ := Lib.hid hq0
          clear hs5 hk5 hq0
          have hq := HQ.out
          have hq2 := q_alloc hq (tokObj te te.tk)
          have hown := hq2.2.2.2
          have hnews := tok_news te rfl w5 (posObj te ta tn tc)
          have hbs : w.heap.size ≤ ((w5.alloc (posObj te ta tn tc)).alloc (tokObj te te.tk)).heap.size := hq2.1.mem.bw
          have HOWN := Lib.hid hown
          have HNW := Lib.hid hnews
          have HBS := Lib.hid hbs
          have HQ2 := Lib.hid hq2
          clear hq hq2 hown hnews hbs
          go_wp2_with (at_builtin; refine wpList_append_own_at _ rfl (.tmp 67) (.tmp 80) 33 rfl w.heap.size 40 i0 _ 6 56 Tryd.underlying33 hi hz0 hz1 hz2 rfl (by decide) _ _ _ rfl HOWN.out ⟨w5.heap.size + 1, 0, none⟩ 1 1 te.cells rfl rfl HNW.out (cells_one te) hm0 hbt0 HBS.out ?_; intro v6 w6 hown6 hgr6 _ _; have HOWN6 := Lib.hid hown6; have HGR6 := Lib.hid hgr6; clear hown6 hgr6)
          go_ret3
          refine ⟨v6, ?_, ?_, ?_⟩
          · rw [HER.out]; exact congrArg (fun k : Int => Ending.returned (.tuple #[v6, .int .i64 k, .bool true])) (by omega)
          · rw [HTS2.out, kept_snoc, if_pos HKP.out, List.length_append, cellsL_app]
            simpa [cellsL] using HOWN6.out
          · exact HQ2.out.2.2.1.grown HGR6.out HBS.out (fun k e => (HOWN.out.lt k e).1)
        | cons t rest =>
          have hch := HI.out.chain
          obtain ⟨ets, htok, htk1, hch2⟩ := hch
          subst ets
          have HCH := Lib.hid (show Chain kh2 kt2 bs t.s (t :: rest) te.s from HI.out.chain)
          have hsc := scan_any HI.out.scn (HI.out.kws.kws (by omega)) htok
          have hrt := HRG.out t (by rw [HTS.out]; simp)
          have hq1 : (t.tk == 1) = false := by simpa using htk1
          have her2 : (errsL done : Int) + (t.s'.errs : Int) ≤ 1152921504606846976 := by
            have h1 := errsL_le (done ++ [t]) (rest ++ [te])
            have h2 : ts ++ [te] = done ++ [t] ++ (rest ++ [te]) := by rw [HTS.out]; simp
            rw [errsL_snoc, ← h2] at h1
            omega
          have hsum : ((errsL done : Nat) : Int) + (t.s'.errs : Int) = ((errsL (done ++ [t]) : Nat) : Int) := by rw [errsL_snoc]; omega
          have HSUM := Lib.hid hsum
          have htn : Hid (ts = (done ++ [t]) ++ rest) := Lib.hid (by rw [HTS.out]; simp)
          have hcnt : ((done.length : Nat) : Int) + 1 = (((done ++ [t]).length : Nat) : Int) := by simp
          have hlen2 : (done ++ [t]).length + rest.length ≤ 2 * bs.size + 7 := by simp at hdl ⊢; omega
          have HCNT := Lib.hid hcnt
          have HSC := Lib.hid hsc
          clear hsc htok htk1 hch2 hsum hcnt
          have hdl2 : (done.length : Int) < 2 * (bs.size : Int) + 8 := by simp only [List.length_cons] at hdl; omega
          by_cases h2 : t.tk = 2
          · have hq2 : (t.tk == 2) = true := by rw [h2]; rfl
            have H2 := Lib.hid h2
            clear h2
            cases white with
            | false =>
              go_wp2_with fail
              refine HSC.out.mono ?_
              rintro e w5 ⟨ta, tn, tc, ea, ec, rfl, hs5, hk5⟩
              have hq0 := HI.out.scanned hs5 hk5 (posObj t ta tn tc)
              have hnx := ImpRel.next HCH.out (white := false) (by unfold keepB; rw [H2.out]; rfl) hq0
              have HNX := Lib.hid hnx
              clear hs5 hk5 hq0 hnx
              go_wp2_with fail
              go_roundg rest.length
              case measure => simp at hg; omega
              case rel => exact ⟨done ++ [t], rest, _, htn, rfl, hlen2, congrArg _ HCNT.out, congrArg _ HSUM.out, HNX.out⟩
            | true =>
              go_wp2_with fail
              refine HSC.out.mono ?_
              rintro e w5 ⟨ta, tn, tc, ea, ec, rfl, hs5, hk5⟩
              have hq0 := HI.out.scanned hs5 hk5 (posObj t ta tn tc)
              have HQ := Lib.hid hq0
              clear hs5 hk5 hq0
              have hq := HQ.out
              have hq2 := q_alloc hq (tokObj t 2)
              have hown := hq2.2.2.2
              have hnews := tok_news t H2.out w5 (posObj t ta tn tc)
              have hbs : w.heap.size ≤ ((w5.alloc (posObj t ta tn tc)).alloc (tokObj t 2)).heap.size := hq2.1.mem.bw
              have HOWN := Lib.hid hown
              have HNW := Lib.hid hnews
              have HBS := Lib.hid hbs
              have HQ2 := Lib.hid hq2
              clear hq hq2 hown hnews hbs
              go_wp2_with (at_builtin; refine wpList_append_own_at _ rfl (.tmp 67) (.tmp 80) 33 rfl w.heap.size 40 i0 _ 6 56 Tryd.underlying33 hi hz0 hz1 hz2 rfl (by decide) _ _ _ rfl HOWN.out ⟨w5.heap.size + 1, 0, none⟩ 1 1 t.cells rfl rfl HNW.out (cells_one t) hm0 hbt0 HBS.out ?_; intro v6 w6 hown6 hgr6 _ _; have HOWN6 := Lib.hid hown6; have HGR6 := Lib.hid hgr6; clear hown6 hgr6)
              go_roundg rest.length
              case measure => simp at hg; omega
              case rel => exact ⟨done ++ [t], rest, _, htn, rfl, hlen2, congrArg _ HCNT.out, congrArg _ HSUM.out, ImpRel.keep HCH.out (by rfl) HQ2.out HOWN6.out HGR6.out⟩
          · have hq2 : (t.tk == 2) = false := by simpa using h2
            have hq2' : (t.tk != 2) = true := by simpa using h2
            have hkp : keepB white t = true := by unfold keepB; rw [decide_eq_true h2]; cases white <;> rfl
            have HKP := Lib.hid hkp
            clear h2 hkp
            go_wp2_with fail
            refine HSC.out.mono ?_
            rintro e w5 ⟨ta, tn, tc, ea, ec, rfl, hs5, hk5⟩
            have hq0 := HI.out.scanned hs5 hk5 (posObj t ta tn tc)
            have HQ := Lib.hid hq0
            clear hs5 hk5 hq0
            have hq := HQ.out
            have hq2 := q_alloc hq (tokObj t t.tk)
            have hown := hq2.2.2.2
            have hnews := tok_news t rfl w5 (posObj t ta tn tc)
            have hbs : w.heap.size ≤ ((w5.alloc (posObj t ta tn tc)).alloc (tokObj t t.tk)).heap.size := hq2.1.mem.bw
            have HOWN := Lib.hid hown
            have HNW := Lib.hid hnews
            have HBS := Lib.hid hbs
            have HQ2 := Lib.hid hq2
            clear hq hq2 hown hnews hbs
            go_wp2_with (at_builtin; refine wpList_append_own_at _ rfl (.tmp 67) (.tmp 80) 33 rfl w.heap.size 40 i0 _ 6 56 Tryd.underlying33 hi hz0 hz1 hz2 rfl (by decide) _ _ _ rfl HOWN.out ⟨w5.heap.size + 1, 0, none⟩ 1 1 t.cells rfl rfl HNW.out (cells_one t) hm0 hbt0 HBS.out ?_; intro v6 w6 hown6 hgr6 _ _; have HOWN6 := Lib.hid hown6; have HGR6 := Lib.hid hgr6; clear hown6 hgr6)
            go_roundg rest.length
            case measure => simp at hg; omega
            case rel => exact ⟨done ++ [t], rest, _, htn, rfl, hlen2, congrArg _ HCNT.out, congrArg _ HSUM.out, ImpRel.keep HCH.out HKP.out HQ2.out HOWN6.out HGR6.out⟩
    | succ g =>
      have hk : ms.length - (g + 1) < ms.length := by omega
      obtain ⟨a, rfl, ha, hc⟩ := hM2.out _ hk
      have hcell : wr.cell? (a.add (ms.length - (g + 1))) = some (.string ⟨(ms.getD (ms.length - (g + 1)) []).toArray⟩) := (HA.out.below.cell (p := a.add (ms.length - (g + 1))) (by rw [Addr.add_block]; exact ha)).trans hc
      have hml : (ms.getD (ms.length - (g + 1)) []).length ≤ maxLen := HMW.out _ (by rw [List.getD_eq_getElem?_getD, List.getElem?_eq_getElem hk]; exact List.getElem_mem hk)
      have hcast : ((ms.length - (g + 1) : Nat) : Int) + 1 = ((ms.length - g : Nat) : Int) := by omega
      have hnat : ms.length - (g + 1) + 1 = ms.length - g := by omega
      have HN := Lib.hid hnat
      have HCAST := Lib.hid hcast
      clear hnat hcast hc
      generalize hx : ms.getD (ms.length - (g + 1)) [] = x at *
      have HX := Lib.hid hx
      clear hx
      go_wp2_with fail
      cases hko : kwOf x with
      | none =>
        have hik := implKeyword_none (s := ⟨x.toArray⟩) (w := wr) hko
        have HIK := Lib.hid hik
        clear hik
        refine HIK.out.mono ?_
        rintro e w3 ⟨rfl, rfl⟩
        have hA2 := HA.out.skip hk (by rw [HX.out]; exact hko)
        rw [HN.out] at hA2
        have HA2 := Lib.hid hA2
        clear hA2
        go_wp2_with fail
        go_roundg g
        case measure => omega
        case rel => exact ⟨by omega, congrArg _ HCAST.out, HA2.out⟩
      | some k =>
        have hik := implKeyword_some (s := ⟨x.toArray⟩) (w := wr) hko
        have HIK := Lib.hid hik
        clear hik
        refine HIK.out.mono ?_
        rintro e w3 ⟨rfl, rfl⟩
        have hkr := kwOf_range hko
        have had := addKeyword_walk sb kb (50 + 2 * (ms.length - (g + 1))) _ _ ⟨x.toArray⟩ k wr HA.out.scn.c0 (HA.out.scn.ne_map HA.out.kws) (by show x.toArray.size ≤ _; simpa using hml) hkr HA.out.kws (by omega)
        have HAD := Lib.hid had
        have HKO := Lib.hid hko
        clear had hko
        go_wp2_with fail
        refine HAD.out.mono ?_
        rintro e w4 ⟨rfl, hw4, hg4⟩
        have hA2 := HA.out.add hkb hk (by rw [HX.out]; exact HKO.out) (by rw [HX.out]; exact hw4) hg4
        rw [HN.out] at hA2
        have HA2 := Lib.hid hA2
        clear hA2 hw4 hg4
        go_wp2_with fail
        go_roundg g
        case measure => omega
        case rel => exact ⟨by omega, congrArg _ HCAST.out, HA2.out⟩

end Go.Proofs.YtplljfbbipeakaaDoor

namespace Go.Proofs.YtplljfbbipeakaaDoor
open Go Go.RowKit Go.Maps Go.WideMaps Go.WideElems

/-- The scanner's tokens of a text of segments. -/
def runT (gs : List Seg) : List TI := toks (segsR gs) 0 gs ++ [endT (segsR gs)]

theorem errsL_zero : ∀ {ts : List TI}, (∀ t ∈ ts, t.s'.errs = 0) → errsL ts = 0
  | [], _ => rfl
  | t :: ts, h => by
    have h1 := errsL_zero (ts := ts) (fun x hx => h x (.tail _ hx))
    have h2 := h t (.head _)
    unfold errsL at h1 ⊢
    rw [List.map_cons, List.sum_cons, h1, h2]

theorem runT_errs (gs : List Seg) : ∀ t ∈ runT gs, t.s'.errs = 0 := by
  intro t ht
  rcases List.mem_append.1 ht with h | h
  · obtain ⟨_, _, _, h2⟩ := toks_mem h; exact h2
  · rw [List.mem_singleton.1 h]; rfl

/-- impl.scan over a text of segments. -/
theorem implScan_run {kh : List UInt8 → Bool} {kt : List UInt8 → Int} {bs : ByteArray} {mv : Value} {ms : List (List UInt8)} {white : Bool} {w : World} {gs : List Seg}
    (hB : Base w.heap.size kh kt w) (hsz : bs.size ≤ 274877906944) (hM : StrsAt mv ms w) (hml : ms.length ≤ 4294967296) (hmw : ∀ m ∈ ms, m.length ≤ maxLen)
    (hX : Txt bs (segsR gs)) (hG : Segs (kwAll kh kt ms).1 (kwAll kh kt ms).2 gs) (hk : KtOk (kwAll kh kt ms).2) :
    Calls Tryd.prog 33 #[.string bs, mv, .bool white] w (ImpPost w.heap.size (runT gs) white w) := by
  obtain ⟨h1, h2, h3⟩ := run_chain hk hX hG
  refine implScan_walk (te := endT (segsR gs)) hB hsz hM hml hmw h1 h2 rfl (by omega) ?_ ?_
  · intro t ht
    rcases List.mem_append.1 ht with h | h
    · obtain ⟨g, hg, e, _⟩ := toks_mem h
      have := hG.range hk g hg
      omega
    · rw [List.mem_singleton.1 h]; exact ⟨by show (0:Int) ≤ 1; decide, by show (1:Int) ≤ 255; decide⟩
  · have := errsL_zero (runT_errs gs)
    unfold runT at this
    rw [this]; exact Nat.zero_le _

set_option maxHeartbeats 1000000 in
theorem Scan_walk {a1 a2 : Value} {w : World} {B : Nat} {ts : List TI} (h : Calls Tryd.prog 33 #[a1, a2, .bool false] w (ImpPost B ts false w)) : Calls Tryd.prog 20 #[a1, a2] w (ImpPost B ts false w) := by
  have H := Lib.hid h
  clear h
  go_enter Tryd.func20, Tryd.ntmps20
  go_wp2_with fail
  refine H.out.mono ?_
  rintro e w1 ⟨v, rfl, h1, h2⟩
  have H1 := Lib.hid h1
  have H2 := Lib.hid h2
  clear h1 h2
  go_wp2
  go_ret3
  exact ⟨v, rfl, H1.out, H2.out⟩

set_option maxHeartbeats 1000000 in
theorem ScanAll_walk {a1 a2 : Value} {w : World} {B : Nat} {ts : List TI} (h : Calls Tryd.prog 33 #[a1, a2, .bool true] w (ImpPost B ts true w)) : Calls Tryd.prog 24 #[a1, a2] w (ImpPost B ts true w) := by
  have H := Lib.hid h
  clear h
  go_enter Tryd.func24, Tryd.ntmps24
  go_wp2_with fail
  refine H.out.mono ?_
  rintro e w1 ⟨v, rfl, h1, h2⟩
  have H1 := Lib.hid h1
  have H2 := Lib.hid h2
  clear h1 h2
  go_wp2
  go_ret3
  exact ⟨v, rfl, H1.out, H2.out⟩

set_option maxHeartbeats 1000000 in
theorem Keyword_walk {kh : List UInt8 → Bool} {kt : List UInt8 → Int} {s : ByteArray} {w : World} (hB : Base w.heap.size kh kt w) (hs : s.size ≤ maxLen) (hk : KtOk kt) :
    Calls Tryd.prog 26 #[.string s] w fun e w' => e = .returned (.int .i64 (kwTok kh kt s.data.toList)) ∧ Below w.heap.size w w' := by
  have hr := kwTok_range (kh := kh) hk s.data.toList
  have HB := Lib.hid hB
  clear hB hk
  go_enter Tryd.func26, Tryd.ntmps26
  go_wp2_with fail
  refine (newReader_walk ⟨#[]⟩ w).mono ?_
  rintro e w1 ⟨rfl, e1⟩
  have hr1 := heap_alloc_new w (.cells #[.string ⟨#[]⟩, .int .i64 0, .int .i64 (-1)] 90)
  have hb1 : Below w.heap.size w (w.alloc (.cells #[.string ⟨#[]⟩, .int .i64 0, .int .i64 (-1)] 90)) := (Below.refl _ _).alloc (Nat.le_refl _) _
  rw [e1] at hr1 hb1
  have hB1 := HB.out.below hb1
  have HR := Lib.hid hr1
  have HB1 := Lib.hid hB1
  have Hb1 := Lib.hid hb1
  clear e1 hr1 hb1 hB1
  go_wp2_with fail
  refine (new_walk HB1.out (Nat.le_refl _) HR.out (by show 0 ≤ _; omega)).mono ?_
  rintro e w2 ⟨sb, kb, bb, rfl, hS, hK, hkb, hb2⟩
  have hkw := keyword_walk sb kb kh kt w2 hS.c0 (hK.kws (by omega)) s hs
  have HKW := Lib.hid hkw
  have Hb2 := Lib.hid (Hb1.out.trans hb2)
  clear hS hK hb2 hkw
  generalize hkv : kwTok kh kt s.data.toList = kv at *
  have HKV := Lib.hid hkv
  clear hkv
  go_wp2_with fail
  refine HKW.out.mono ?_
  rintro e w3 ⟨rfl, rfl⟩
  go_wp2
  go_ret
  exact ⟨ret_int HKV.out.symm, Hb2.out⟩

set_option maxHeartbeats 1000000 in
theorem IsKeyword_walk {kh : List UInt8 → Bool} {kt : List UInt8 → Int} {s : ByteArray} {w : World} (hB : Base w.heap.size kh kt w) (hs : s.size ≤ maxLen) :
    Calls Tryd.prog 27 #[.string s] w fun e w' => e = .returned (.bool (kh s.data.toList)) ∧ Below w.heap.size w w' := by
  have HB := Lib.hid hB
  clear hB
  go_enter Tryd.func27, Tryd.ntmps27
  go_wp2_with fail
  refine (newReader_walk ⟨#[]⟩ w).mono ?_
  rintro e w1 ⟨rfl, e1⟩
  have hr1 := heap_alloc_new w (.cells #[.string ⟨#[]⟩, .int .i64 0, .int .i64 (-1)] 90)
  have hb1 : Below w.heap.size w (w.alloc (.cells #[.string ⟨#[]⟩, .int .i64 0, .int .i64 (-1)] 90)) := (Below.refl _ _).alloc (Nat.le_refl _) _
  rw [e1] at hr1 hb1
  have hB1 := HB.out.below hb1
  have HR := Lib.hid hr1
  have HB1 := Lib.hid hB1
  have Hb1 := Lib.hid hb1
  clear e1 hr1 hb1 hB1
  go_wp2_with fail
  refine (new_walk HB1.out (Nat.le_refl _) HR.out (by show 0 ≤ _; omega)).mono ?_
  rintro e w2 ⟨sb, kb, bb, rfl, hS, hK, hkb, hb2⟩
  have hkw := isKeyword_walk sb kb kh kt w2 hS.c0 (hK.kws (by omega)) s hs
  have HKW := Lib.hid hkw
  have Hb2 := Lib.hid (Hb1.out.trans hb2)
  clear hS hK hb2 hkw
  generalize hkv : kh s.data.toList = kv at *
  have HKV := Lib.hid hkv
  clear hkv
  go_wp2_with fail
  refine HKW.out.mono ?_
  rintro e w3 ⟨rfl, rfl⟩
  go_wp2
  go_ret
  exact ⟨ret_bool HKV.out.symm, Hb2.out⟩

/-- What came back, opened. -/
theorem own_form {w : World} {B e size n : Nat} {v : Value} {xs : List Value} (h : w.ownsRow B e size v n xs) (hn : 0 < n) :
    ∃ g c, v = .slice (some ⟨g, 0, none⟩) n c ∧ B ≤ g ∧ ∀ j u, xs[j]? = some u → w.cell? ⟨g, j, none⟩ = some u := by
  rcases h.2 with ⟨_, h0⟩ | ⟨g, cap, cur, rfl, hg, hh, r⟩
  · omega
  · refine ⟨g, cap, rfl, hg, fun j u hj => ?_⟩
    have := h.cells (g := g) rfl j u hj
    rwa [addr_add, Nat.zero_add] at this

def abSeg (kh : List UInt8 → Bool) (kt : List UInt8 → Int) : Seg := ⟨[97, 98], kwTok kh kt (encL [97, 98]), BA [97, 98]⟩

theorem ab_txt (kh : List UInt8 → Bool) (kt : List UInt8 → Int) : Txt ⟨#[97, 98]⟩ (segsR [abSeg kh kt]) := by
  refine ⟨?_, ?_⟩
  · intro r hr
    have hr' : r ∈ [97, 98] := hr
    simp only [List.mem_cons, List.not_mem_nil, or_false] at hr'
    rcases hr' with rfl | rfl <;> refine ⟨Or.inl (by decide), by decide, by decide⟩
  · show [97, 98] = encL [97, 98]
    rw [encL_cons, encL_cons, encL_nil, encR1 (by decide), encR1 (by decide)]; rfl

theorem ab_segs (kh : List UInt8 → Bool) (kt : List UInt8 → Int) : Segs kh kt [abSeg kh kt] := by
  refine ⟨SegOk.id [97, 98] [] (by simp) (fun r hr => by cases hr; decide) (fun r hr => by simp at hr; rcases hr with rfl | rfl <;> decide) (fun r hr => by cases hr), trivial⟩

set_option maxHeartbeats 2000000 in
theorem works_walk {kh : List UInt8 → Bool} {kt : List UInt8 → Int} {w : World} (hB : Base w.heap.size kh kt w) (hk : KtOk kt) (hab : kh [97, 98] = false) :
    Calls Tryd.prog 19 #[] w fun e w' => e = .returned (.bool true) ∧ Below w.heap.size w w' := by
  have hscan := Scan_walk (implScan_run (ms := []) (mv := .slice none 0 0) (white := false) (gs := [abSeg kh kt]) hB (by show 2 ≤ _; omega) (StrsAt.nil w) (Nat.zero_le _) (fun m hm => by cases hm) (ab_txt kh kt) (ab_segs kh kt) hk)
  have HSC := Lib.hid hscan
  have hkk : kwTok kh kt (encL [97, 98]) = 3 := by
    have e : encL [97, 98] = [97, 98] := by rw [encL_cons, encL_cons, encL_nil, encR1 (by decide), encR1 (by decide)]; rfl
    rw [e]; unfold kwTok; rw [if_neg (by rw [hab]; decide)]
  have HKK := Lib.hid hkk
  clear hscan hB hk hab hkk
  go_enter Tryd.func19, Tryd.ntmps19
  go_wp2_with fail
  refine HSC.out.mono ?_
  rintro e w1 ⟨v, rfl, hown, hb⟩
  have hkeep : kept false (runT [abSeg kh kt]) = runT [abSeg kh kt] := by
    unfold kept
    rw [List.filter_eq_self]
    intro t ht
    have ht' : t = ⟨kwTok kh kt (encL [97, 98]), BA [97, 98], rs [97, 98] 0, rs [97, 98] 2⟩ ∨ t = endT [97, 98] := by
      rcases List.mem_append.1 ht with h | h
      · exact Or.inl (List.mem_singleton.1 h)
      · exact Or.inr (List.mem_singleton.1 h)
    rcases ht' with rfl | rfl
    · unfold keepB; simp only; rw [HKK.out]; rfl
    · rfl
  rw [hkeep] at hown
  have hl : (runT [abSeg kh kt]).length = 2 := rfl
  rw [hl] at hown
  obtain ⟨g, c, rfl, hg, hc⟩ := own_form hown (by omega)
  have c0 := hc 0 (.int .i64 (kwTok kh kt (encL [97, 98]))) rfl
  have c2 : w1.cell? ⟨g, 2, none⟩ = some (.int .i64 0) := hc 2 _ rfl
  have c3 : w1.cell? ⟨g, 3, none⟩ = some (.int .i64 2) := hc 3 _ rfl
  have c6 : w1.cell? ⟨g, 6, none⟩ = some (.int .i64 1) := hc 6 _ rfl
  rw [HKK.out] at c0
  have he0 : errsL (runT [abSeg kh kt]) = 0 := errsL_zero (runT_errs _)
  rw [he0]
  have HBL := Lib.hid hb
  clear hown hc hkeep hl he0 hb
  go_wp2
  go_ret
  exact ⟨rfl, HBL.out⟩

end Go.Proofs.YtplljfbbipeakaaDoor
