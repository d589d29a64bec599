/- impl.scan: what it is handed, what stays, what its loops do. -/
import Derived.Test.YtplljfbbipeakaaDoorAdd
import Derived.Test.YtplljfbbipeakaaDoorScanA
import Derived.Test.YtplljfbbipeakaaDoorPlC
import Derived.Deep.AppendLies
import Derived.Maps.AppendAt
namespace Go.Proofs.YtplljfbbipeakaaDoor
open Go Go.RowKit Go.Maps Go.WideMaps Go.WideElems

/-- A []string that is handed on: its words. -/
def StrsAt (v : Value) (ms : List (List UInt8)) (w : World) : Prop :=
  ∃ ao c, v = .slice ao ms.length c ∧ ∀ j, j < ms.length → ∃ a, ao = some a ∧ a.block < w.heap.size ∧ w.cell? (a.add j) = some (.string ⟨(ms.getD j []).toArray⟩)

theorem StrsAt.nil (w : World) : StrsAt (.slice none 0 0) [] w := ⟨none, 0, rfl, fun j hj => by cases hj⟩
theorem Addr.add_block (a : Addr) (j : Nat) : (a.add j).block = a.block := by unfold Addr.add; split <;> rfl

theorem StrsAt.below {v : Value} {ms : List (List UInt8)} {w w' : World} (h : StrsAt v ms w) (hb : Below w.heap.size w w') : StrsAt v ms w' := by
  obtain ⟨ao, c, h1, h2⟩ := h
  refine ⟨ao, c, h1, fun j hj => ?_⟩
  obtain ⟨a, e, h3, h4⟩ := h2 j hj
  exact ⟨a, e, Nat.lt_of_lt_of_le h3 hb.size, (hb.cell (p := a.add j) (by rw [Addr.add_block]; exact h3)).trans h4⟩

/-- The keywords behind the words of a list. -/
def kwStep (p : (List UInt8 → Bool) × (List UInt8 → Int)) (m : List UInt8) : (List UInt8 → Bool) × (List UInt8 → Int) :=
  match kwOf m with
  | some k => (addH p.1 m k, addT p.2 m k)
  | none => p
def kwAll (kh : List UInt8 → Bool) (kt : List UInt8 → Int) (ms : List (List UInt8)) : (List UInt8 → Bool) × (List UInt8 → Int) := ms.foldl kwStep (kh, kt)

theorem kwAll_take {kh : List UInt8 → Bool} {kt : List UInt8 → Int} {ms : List (List UInt8)} {k : Nat} (h : k < ms.length) : kwAll kh kt (ms.take (k + 1)) = kwStep (kwAll kh kt (ms.take k)) (ms.getD k []) := by
  unfold kwAll
  rw [List.take_succ_eq_append_getElem h, List.foldl_append, List.getD_eq_getElem?_getD, List.getElem?_eq_getElem h]
  rfl

/-! a map's block is no scanner's -/
theorem own_ne_map {w : World} {B : Nat} {e : TypeId} {size n : Nat} {v : Value} {xs : List Value} (ho : w.ownsRow B e size v n xs) {b : Nat} {es : Array MapEntry} {c : Nat} (h : w.heap[b]? = some (.map es c)) : v.ownBlock ≠ some b := by
  rcases ho.2 with ⟨rfl, _⟩ | ⟨g, cap, cur, rfl, _, hh, _⟩
  · simp [Value.ownBlock]
  · simp only [Value.ownBlock]
    intro e'
    cases e'
    rw [hh] at h
    cases h

theorem Kws.block {kb n : Nat} {kh : List UInt8 → Bool} {kt : List UInt8 → Int} {w : World} (h : KwsN kb n kh kt w) : ∃ es c, w.heap[kb]? = some (.map es c) := by
  obtain ⟨D, ⟨es, clock, hb, _⟩, _⟩ := h
  exact ⟨es, clock, hb⟩

theorem Scn.map_grown {B sb kb bb : Nat} {bs : ByteArray} {s : SS} {w w' : World} (h : Scn B sb kb bb bs s w) (hk : ∃ es c, w.heap[kb]? = some (.map es c)) (hB : B ≤ kb) (g : w.grownBy w' (some kb)) : Scn B sb kb bb bs s w' := by
  obtain ⟨es, cc, hk⟩ := hk
  have hbl : Below B w w' := (Below.refl B w).grown g h.mem.bw (fun k e => by cases e; exact hB)
  obtain ⟨cap, ev, tg, tc, tn, txs, exs, r1, r2, r3, r4, r5⟩ := h.mem.rows
  obtain ⟨cur, f, b1, b2⟩ := h.mem.bytes
  have n1 : sb ≠ kb := fun e => by subst e; rw [r1] at hk; cases hk
  have n2 : bb ≠ kb := fun e => by subst e; rw [b1] at hk; cases hk
  refine ⟨⟨h.mem.b6, Nat.le_trans h.mem.bw g.size, h.mem.bsb, tabs_below h.mem.b6 h.mem.tabs hbl, ⟨cur, f, ?_, b2⟩, cap, ev, tg, tc, tn, txs, exs, ?_, r2, r3.kept g (Or.inr (own_ne_map r3 hk)), r4.kept g (Or.inr (own_ne_map r4 hk)), r5⟩, h.ok, h.size⟩
  · rw [g.block bb (lt_of_block b1) (fun e => n2 (Option.some.inj e))]; exact b1
  · rw [g.block sb (lt_of_block r1) (fun e => n1 (Option.some.inj e))]; exact r1

/-- A row of tokens grows: the scanner stays. -/
theorem Scn.tok_grown {B sb kb bb : Nat} {bs : ByteArray} {s : SS} {w w' : World} {l : Value} {n : Nat} {xs : List Value} (h : Scn B sb kb bb bs s w) (ho : w.ownsRow B 40 6 l n xs) (g : w.grownBy w' l.ownBlock) : Scn B sb kb bb bs s w' := by
  have hbl : Below B w w' := (Below.refl B w).grown g h.mem.bw (fun k e => (ho.lt k e).1)
  obtain ⟨cap, ev, tg, tc, tn, txs, exs, r1, r2, r3, r4, r5⟩ := h.mem.rows
  obtain ⟨cur, f, b1, b2⟩ := h.mem.bytes
  have n1 := own_ne ho r1 (by decide)
  have n2 := own_ne ho b1 (by decide)
  have hk : ∀ {e : TypeId} {sz m : Nat} {v : Value} {ys : List Value}, w.ownsRow B e sz v m ys → e ≠ 40 → v.ownBlock = none ∨ v.ownBlock ≠ l.ownBlock := by
    intro e sz m v ys hv he
    rcases hv.2 with ⟨rfl, _⟩ | ⟨g', cap', cur', rfl, _, hh, _⟩
    · exact Or.inl rfl
    · exact Or.inr (fun e' => own_ne ho hh (Ne.symm he) (by rw [← e']; rfl))
  refine ⟨⟨h.mem.b6, Nat.le_trans h.mem.bw g.size, h.mem.bsb, tabs_below h.mem.b6 h.mem.tabs hbl, ⟨cur, f, ?_, b2⟩, cap, ev, tg, tc, tn, txs, exs, ?_, r2, r3.kept g (hk r3 (by decide)), r4.kept g (hk r4 (by decide)), r5⟩, h.ok, h.size⟩
  · rw [g.block bb (lt_of_block b1) (fun e => n2 e.symm)]; exact b1
  · rw [g.block sb (lt_of_block r1) (fun e => n1 e.symm)]; exact r1

theorem Scn.alloc {B sb kb bb : Nat} {bs : ByteArray} {s : SS} {w : World} (h : Scn B sb kb bb bs s w) (o : Obj) : Scn B sb kb bb bs s (w.alloc o) := by
  have hbl : Below B w (w.alloc o) := (Below.refl B w).alloc h.mem.bw _
  obtain ⟨cap, ev, tg, tc, tn, txs, exs, r1, r2, r3, r4, r5⟩ := h.mem.rows
  obtain ⟨cur, f, b1, b2⟩ := h.mem.bytes
  exact ⟨⟨h.mem.b6, Nat.le_trans h.mem.bw hbl.size, h.mem.bsb, tabs_below h.mem.b6 h.mem.tabs hbl, ⟨cur, f, row_alloc b1, b2⟩, cap, ev, tg, tc, tn, txs, exs, row_alloc r1, r2, r3.alloc _, r4.alloc _, r5⟩, h.ok, h.size⟩

theorem KwsN.alloc {kb n : Nat} {kh : List UInt8 → Bool} {kt : List UInt8 → Int} {w : World} (h : KwsN kb n kh kt w) (o : Obj) : KwsN kb n kh kt (w.alloc o) := h.kept ((Kept.refl 0 w).alloc o)
theorem KwsN.tok_grown {B kb m : Nat} {kh : List UInt8 → Bool} {kt : List UInt8 → Int} {w w' : World} {l : Value} {n : Nat} {xs : List Value} (h : KwsN kb m kh kt w) (ho : w.ownsRow B 40 6 l n xs) (g : w.grownBy w' l.ownBlock) : KwsN kb m kh kt w' := by
  obtain ⟨D, ⟨es, clock, hb, F, hs, hD⟩, hv⟩ := h
  refine ⟨D, ⟨es, clock, ?_, F, hs, hD⟩, hv⟩
  rw [g.block kb (lt_of_block hb) (fun e => own_ne_map ho hb e.symm)]
  exact hb

theorem Scn.c0 {B sb kb bb : Nat} {bs : ByteArray} {s : SS} {w : World} (h : Scn B sb kb bb bs s w) : w.cell? ⟨sb, 0, none⟩ = some (.map (some kb)) := by
  obtain ⟨cap, ev, tg, tc, tn, txs, exs, r1, _⟩ := h.mem.rows
  exact cell_row r1 0 _ rfl
theorem Scn.ne_map {B sb kb bb n : Nat} {bs : ByteArray} {s : SS} {kh : List UInt8 → Bool} {kt : List UInt8 → Int} {w : World} (h : Scn B sb kb bb bs s w) (hk : KwsN kb n kh kt w) : sb ≠ kb := by
  obtain ⟨cap, ev, tg, tc, tn, txs, exs, r1, _⟩ := h.mem.rows
  obtain ⟨es, c, hb⟩ := Kws.block hk
  intro e; subst e; rw [r1] at hb; cases hb

theorem kwOf_range {l : List UInt8} {k : Int} (h : kwOf l = some k) : 0 ≤ k ∧ k ≤ 255 := by
  unfold kwOf at h
  repeat' split at h
  all_goals (cases h; try decide)

/-- Where the loop over the added words stands. -/
structure MoreAt (B sb kb bb : Nat) (bs : ByteArray) (s : SS) (kh : List UInt8 → Bool) (kt : List UInt8 → Int) (w0 : World) (ms : List (List UInt8)) (k : Nat) (wr : World) : Prop where
  le : k ≤ ms.length
  scn : Scn B sb kb bb bs s wr
  kws : KwsN kb (50 + 2 * k) (kwAll kh kt (ms.take k)).1 (kwAll kh kt (ms.take k)).2 wr
  below : Below B w0 wr

theorem MoreAt.skip {B sb kb bb : Nat} {bs : ByteArray} {s : SS} {kh : List UInt8 → Bool} {kt : List UInt8 → Int} {w0 : World} {ms : List (List UInt8)} {k : Nat} {wr : World} (h : MoreAt B sb kb bb bs s kh kt w0 ms k wr) (hk : k < ms.length) (hn : kwOf (ms.getD k []) = none) :
    MoreAt B sb kb bb bs s kh kt w0 ms (k + 1) wr := by
  refine ⟨hk, h.scn, ?_, h.below⟩
  have e : kwAll kh kt (ms.take (k + 1)) = kwAll kh kt (ms.take k) := by rw [kwAll_take hk]; unfold kwStep; rw [hn]
  rw [e]
  obtain ⟨D, h1, h2⟩ := h.kws
  exact ⟨D, h1.mono (by omega), h2⟩

theorem MoreAt.add {B sb kb bb : Nat} {bs : ByteArray} {s : SS} {kh : List UInt8 → Bool} {kt : List UInt8 → Int} {w0 : World} {ms : List (List UInt8)} {k : Nat} {wr w' : World} {i : Int} (h : MoreAt B sb kb bb bs s kh kt w0 ms k wr) (hB : B ≤ kb) (hk : k < ms.length) (hn : kwOf (ms.getD k []) = some i)
    (hw : KwsN kb (50 + 2 * k + 2) (addH (kwAll kh kt (ms.take k)).1 (ms.getD k []) i) (addT (kwAll kh kt (ms.take k)).2 (ms.getD k []) i) w') (g : wr.grownBy w' (some kb)) :
    MoreAt B sb kb bb bs s kh kt w0 ms (k + 1) w' := by
  refine ⟨hk, h.scn.map_grown (Kws.block h.kws) hB g, ?_, h.below.grown g h.scn.mem.bw (fun j e => by cases e; exact hB)⟩
  have e : kwAll kh kt (ms.take (k + 1)) = (addH (kwAll kh kt (ms.take k)).1 (ms.getD k []) i, addT (kwAll kh kt (ms.take k)).2 (ms.getD k []) i) := by rw [kwAll_take hk]; unfold kwStep; rw [hn]
  rw [e]
  obtain ⟨D, h1, h2⟩ := hw
  exact ⟨D, h1.mono (by omega), h2⟩

/-! tokens that are kept -/
def TI.cells (t : TI) : List Value := [.int .i64 t.tk, .string t.lit, .int .i64 t.start, .int .i64 t.stop, .int .i64 t.s.row, .int .i64 t.s.col]
def keepB (white : Bool) (t : TI) : Bool := white || decide (t.tk ≠ 2)
def kept (white : Bool) (ts : List TI) : List TI := ts.filter (keepB white)
def cellsL (ts : List TI) : List Value := ts.flatMap TI.cells
def errsL (ts : List TI) : Nat := (ts.map (fun t => t.s'.errs)).sum

/-- What impl.scan leaves. -/
def ImpPost (B : Nat) (ts : List TI) (white : Bool) (w : World) (e : Ending) (w' : World) : Prop :=
  ∃ v, e = .returned (.tuple #[v, .int .i64 (errsL ts : Nat), .bool true]) ∧ w'.ownsRow B 40 6 v (kept white ts).length (cellsL (kept white ts)) ∧ Below B w w'

theorem kept_le (white : Bool) (ts : List TI) : (kept white ts).length ≤ ts.length := List.length_filter_le _ _
theorem info40 : (Tryd.prog.info? 40).map (fun i => (i.zero, i.size, i.bytes)) = some (some (.agg #[.int .i64 0, .string .empty, .int .i64 0, .int .i64 0, .int .i64 0, .int .i64 0]), 6, 56) := by kernel_rfl
theorem cells_one (t : TI) : ∀ u ∈ t.cells, u.oneCell' = true := by
  intro u hu
  simp only [TI.cells, List.mem_cons, List.not_mem_nil, or_false] at hu
  rcases hu with rfl | rfl | rfl | rfl | rfl | rfl <;> rfl
/-- A token's block, and its cells, in the walk's spelling. -/
abbrev posObj (t : TI) (ta : Option Addr) (tn tc : Nat) : Obj := .cells #[.slice ta tn tc, .int .i64 ((t.s.off : Int) - (t.s.width : Int)), .int .i64 ((t.s'.off : Int) - (t.s'.width : Int)), .int .i64 t.s.row, .int .i64 t.s.col] 77
abbrev tokObj (t : TI) (k : Int) : Obj := .cells #[.int .i64 k, .string t.lit, .int .i64 ((t.s.off : Int) - (t.s.width : Int)), .int .i64 ((t.s'.off : Int) - (t.s'.width : Int)), .int .i64 t.s.row, .int .i64 t.s.col] 40
theorem tok_news (t : TI) {k : Int} (hk : t.tk = k) (W : World) (o : Obj) : ∀ j u, t.cells[j]? = some u → ((W.alloc o).alloc (tokObj t k)).cell? ((⟨W.heap.size + 1, 0, none⟩ : Addr).add j) = some u := by
  subst hk
  have h := heap_alloc_new (W.alloc o) (tokObj t t.tk)
  rw [World.size_alloc] at h
  exact World.news_of_block (cs := #[.int .i64 t.tk, .string t.lit, .int .i64 ((t.s.off : Int) - (t.s.width : Int)), .int .i64 ((t.s'.off : Int) - (t.s'.width : Int)), .int .i64 t.s.row, .int .i64 t.s.col]) (t := 40) (fr := (0, 0)) h

/-- Where the loop over the tokens stands. -/
structure ImpRel (B sb kb bb N : Nat) (bs : ByteArray) (kh : List UInt8 → Bool) (kt : List UInt8 → Int) (white : Bool) (w0 : World) (e : SS) (done rest : List TI) (s : SS) (l : Value) (wr : World) : Prop where
  scn : Scn B sb kb bb bs s wr
  kws : KwsN kb N kh kt wr
  below : Below B w0 wr
  own : wr.ownsRow B 40 6 l (kept white done).length (cellsL (kept white done))
  chain : Chain kh kt bs s rest e

theorem kept_snoc (white : Bool) (done : List TI) (t : TI) : kept white (done ++ [t]) = kept white done ++ (if keepB white t = true then [t] else []) := by
  unfold kept; rw [List.filter_append]; congr 1; rw [List.filter_cons]; rfl
theorem cellsL_app (a b : List TI) : cellsL (a ++ b) = cellsL a ++ cellsL b := List.flatMap_append
theorem errsL_snoc (a : List TI) (t : TI) : errsL (a ++ [t]) = errsL a + t.s'.errs := by simp [errsL]
theorem errsL_le (a b : List TI) : errsL a ≤ errsL (a ++ b) := by simp [errsL]

section
variable {B sb kb bb N : Nat} {bs : ByteArray} {kh : List UInt8 → Bool} {kt : List UInt8 → Int} {white : Bool} {w0 : World} {e : SS} {done rest : List TI} {s : SS} {l : Value} {wr : World}

/-- Behind Scan and the token's own block. -/
theorem ImpRel.scanned {t : TI} {w' : World} (h : ImpRel B sb kb bb N bs kh kt white w0 e done (t :: rest) s l wr) (hs : Scn B sb kb bb bs t.s'.clr w') (hk : Kept B wr w') (o : Obj) :
    Scn B sb kb bb bs t.s'.clr (w'.alloc o) ∧ KwsN kb N kh kt (w'.alloc o) ∧ Below B w0 (w'.alloc o) ∧ (w'.alloc o).ownsRow B 40 6 l (kept white done).length (cellsL (kept white done)) := by
  refine ⟨hs.alloc o, (h.kws.kept hk).alloc o, ?_, (hk.owns h.own rfl).alloc o⟩
  exact (h.below.trans (hk.toBelow h.scn.mem.bw)).alloc hs.mem.bw _

theorem ImpRel.end_scanned {t : TI} {w' : World} (h : ImpRel B sb kb bb N bs kh kt white w0 e done [] s l wr) (hs : Scn B sb kb bb bs t.s'.clr w') (hk : Kept B wr w') (o : Obj) :
    Scn B sb kb bb bs t.s'.clr (w'.alloc o) ∧ KwsN kb N kh kt (w'.alloc o) ∧ Below B w0 (w'.alloc o) ∧ (w'.alloc o).ownsRow B 40 6 l (kept white done).length (cellsL (kept white done)) := by
  refine ⟨hs.alloc o, (h.kws.kept hk).alloc o, ?_, (hk.owns h.own rfl).alloc o⟩
  exact (h.below.trans (hk.toBelow h.scn.mem.bw)).alloc hs.mem.bw _

theorem q_alloc {s2 : SS} {w1 : World} {n : Nat} {xs : List Value} (q : Scn B sb kb bb bs s2 w1 ∧ KwsN kb N kh kt w1 ∧ Below B w0 w1 ∧ w1.ownsRow B 40 6 l n xs) (o : Obj) :
    Scn B sb kb bb bs s2 (w1.alloc o) ∧ KwsN kb N kh kt (w1.alloc o) ∧ Below B w0 (w1.alloc o) ∧ (w1.alloc o).ownsRow B 40 6 l n xs :=
  ⟨q.1.alloc o, q.2.1.alloc o, q.2.2.1.alloc q.1.mem.bw _, q.2.2.2.alloc o⟩

theorem ImpRel.next {t : TI} {w1 : World} (h : Chain kh kt bs s (t :: rest) e) (hk : keepB white t = false) (q : Scn B sb kb bb bs t.s'.clr w1 ∧ KwsN kb N kh kt w1 ∧ Below B w0 w1 ∧ w1.ownsRow B 40 6 l (kept white done).length (cellsL (kept white done))) :
    ImpRel B sb kb bb N bs kh kt white w0 e (done ++ [t]) rest t.s'.clr l w1 := by
  refine ⟨q.1, q.2.1, q.2.2.1, ?_, h.2.2.2⟩
  rw [kept_snoc, if_neg (by rw [hk]; decide), List.append_nil]
  exact q.2.2.2

theorem ImpRel.keep {t : TI} {w1 w2 : World} {l2 : Value} (h : Chain kh kt bs s (t :: rest) e) (hk : keepB white t = true) (q : Scn B sb kb bb bs t.s'.clr w1 ∧ KwsN kb N kh kt w1 ∧ Below B w0 w1 ∧ w1.ownsRow B 40 6 l (kept white done).length (cellsL (kept white done)))
    (ho : w2.ownsRow B 40 6 l2 ((kept white done).length + 1) (cellsL (kept white done) ++ t.cells)) (g : w1.grownBy w2 l.ownBlock) :
    ImpRel B sb kb bb N bs kh kt white w0 e (done ++ [t]) rest t.s'.clr l2 w2 := by
  refine ⟨q.1.tok_grown q.2.2.2 g, q.2.1.tok_grown q.2.2.2 g, q.2.2.1.grown g q.1.mem.bw (fun k e => (q.2.2.2.lt k e).1), ?_, h.2.2.2⟩
  rw [kept_snoc, if_pos hk, List.length_append, cellsL_app]
  simpa [cellsL] using ho
end

end Go.Proofs.YtplljfbbipeakaaDoor
