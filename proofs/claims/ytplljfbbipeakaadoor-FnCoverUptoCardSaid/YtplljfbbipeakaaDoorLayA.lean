/- spec.Lay and its closure, walked. -/
import Derived.Test.YtplljfbbipeakaaDoorWr
import Derived.Outline
namespace Go.Proofs.YtplljfbbipeakaaDoor
open Go Go.RowKit

/-- Two blocks alone may have turned. -/
structure Two (b8 b9 : Nat) (w w' : World) : Prop where
  os : w'.os = w.os
  tape : w'.tape = w.tape
  output : w'.output = w.output
  size : w'.heap.size = w.heap.size
  block : ∀ k, k ≠ b8 → k ≠ b9 → w'.heap[k]? = w.heap[k]?

def nlB (l : List UInt8) : Nat := l.count 10
def StrBlk (b : Nat) (S : ByteArray) (w : World) : Prop := w.heap[b]? = some (.cells #[.string S] 9 (0, 0))
def IntBlk (b : Nat) (R : Int) (w : World) : Prop := w.heap[b]? = some (.cells #[.int .i64 R] 3 (0, 0))

theorem Two.refl (b8 b9 : Nat) (w : World) : Two b8 b9 w w := ⟨rfl, rfl, rfl, rfl, fun _ _ _ => rfl⟩
theorem Two.set {b8 b9 : Nat} {w0 w : World} (h : Two b8 b9 w0 w) {p : Addr} (hp : p.block = b8 ∨ p.block = b9) (v : Value) : Two b8 b9 w0 (w.setCell p v) :=
  ⟨h.os, h.tape, h.output, by simp only [World.setCell, Array.size_modify]; exact h.size, fun k h1 h2 => by
    rw [Below.heap_setCell _ _ _ _ (by rcases hp with e | e <;> rw [e] <;> assumption)]; exact h.block k h1 h2⟩

theorem intBlk_cast {b : Nat} {x : Value} {a z : Int} {w : World} (h : w.heap[b]? = some (.cells ((#[x] : Array Value).setIfInBounds 0 (.int .i64 a)) 3 (0, 0))) (e : a = z) : IntBlk b z w := by
  rw [← e]; exact h

theorem nlB_snoc (s : ByteArray) (k : Nat) (h : k < s.size) : nlB (s.data.toList.take (k + 1)) = nlB (s.data.toList.take k) + if s[k] = 10 then 1 else 0 := by
  unfold nlB
  have e : s.data.toList.take (k + 1) = s.data.toList.take k ++ [s[k]] := by rw [List.take_succ_eq_append_getElem (by simpa using h)]; rfl
  rw [e, List.count_append, List.count_singleton]
  by_cases h10 : s[k] = 10
  · simp [h10]
  · simp [h10]

set_option maxHeartbeats 2000000 in
set_option maxRecDepth 100000 in
theorem add_walk (S s : ByteArray) (R : Nat) (b8 b9 : Nat) (w : World) (h8 : StrBlk b8 S w) (h9 : IntBlk b9 R w) (hS : S.size ≤ 1099511627776) (hs : s.size ≤ 1099511627776) (hR : R ≤ 1099511627776) :
    Calls Tryd.prog 32 #[.string s, .pointer (some ⟨b8, 0, none⟩), .pointer (some ⟨b9, 0, none⟩)] w fun e w' => e = .returned (.tuple #[]) ∧ StrBlk b8 (S ++ s) w' ∧ IntBlk b9 ((R + nlB s.data.toList : Nat) : Int) w' ∧ Two b8 b9 w w' := by
  have c8 : w.cell? ⟨b8, 0, none⟩ = some (.string S) := cell_row h8 0 _ rfl
  have f8 : w.frozen? ⟨b8, 0, none⟩ = false := free_row h8 0
  have hne : b9 ≠ b8 := fun e => by subst e; have := h8.symm.trans h9; cases this
  have hsz : S.size + s.size ≤ 9223372036854775807 := by omega
  have H8 := Lib.hid h8
  have H9 := Lib.hid h9
  clear h8 h9
  go_enter Tryd.func32, Tryd.ntmps32
  go_wp2
  go_loopg [10] s.size (fun g i wr => ∃ k : Nat, k + g = s.size ∧ i = .int .i64 (k : Int) ∧ StrBlk b8 (S ++ s) wr ∧ IntBlk b9 ((R + nlB (s.data.toList.take k) : Nat) : Int) wr ∧ Two b8 b9 w wr)
  case atStart =>
    refine ⟨0, by simp, rfl, row_set _ H8.out, row_set_other _ hne H9.out, (Two.refl b8 b9 w).set (p := ⟨b8, 0, none⟩) (Or.inl rfl) _⟩
  case round =>
    obtain ⟨k, hg, rfl, q8, q9, hT⟩ := hrel
    have Q8 := Lib.hid q8
    have Q9 := Lib.hid q9
    have HT := Lib.hid hT
    cases gk with
    | zero =>
      obtain rfl : k = s.size := by omega
      clear q8 q9 hT
      go_wp2
      go_end0
      have e : s.data.toList.take s.size = s.data.toList := List.take_of_length_le (by have : s.data.toList.length = s.size := Array.length_toList; omega)
      have q := Q9.out
      rw [e] at q
      exact ⟨rfl, Q8.out, q, HT.out⟩
    | succ g =>
      have hk : k < s.size := by omega
      have hk2 : (k + 1) + g = s.size := by omega
      have hsn := nlB_snoc s k hk
      have hcl : nlB (s.data.toList.take k) ≤ k := Nat.le_trans List.count_le_length (List.length_take_le _ _)
      clear hg
      by_cases h10 : s[k] = 10
      · have e10 : ((s[k].toNat : Int) == 10) = true := by rw [h10]; rfl
        rw [if_pos h10] at hsn
        have c9 : wr.cell? ⟨b9, 0, none⟩ = some (.int .i64 ((R + nlB (s.data.toList.take k) : Nat) : Int)) := cell_row q9 0 _ rfl
        have f9 : wr.frozen? ⟨b9, 0, none⟩ = false := free_row q9 0
        have HSN := Lib.hid hsn
        clear q8 q9 hT h10 hsn
        generalize nlB (s.data.toList.take k) = cc at *
        go_wp2
        go_roundg g
        case measure => omega
        case rel =>
          refine ⟨k + 1, hk2, by go_num, row_set_other _ (Ne.symm hne) Q8.out, ?_, HT.out.set (p := ⟨b9, 0, none⟩) (Or.inr rfl) _⟩
          rw [HSN.out]
          exact intBlk_cast (row_set _ Q9.out) (by omega)
      · have e10 : ((s[k].toNat : Int) == 10) = false := by
          rw [beq_eq_false_iff_ne]
          intro h
          exact h10 (UInt8.toNat_inj.1 (by have : s[k].toNat = 10 := by omega
                                           rw [this]; rfl))
        rw [if_neg h10] at hsn
        have HSN := Lib.hid hsn
        clear q8 q9 hT h10 hsn
        go_wp2
        go_roundg g
        case measure => omega
        case rel => exact ⟨k + 1, hk2, by go_num, Q8.out, by rw [HSN.out]; exact Q9.out, HT.out⟩

end Go.Proofs.YtplljfbbipeakaaDoor

namespace Go.Proofs.YtplljfbbipeakaaDoor
open Go Go.RowKit

/-- A piece: its kind, its number, its text. -/
structure PV where
  k : Int
  n : Int
  t : ByteArray

/-- A token that is wanted. -/
structure WT where
  kind : Int
  body : List Nat
  off : Nat
  stop : Nat
  row : Nat
def WT.cells (x : WT) : List Value := [.int .i64 x.kind, .string (BA x.body), .int .i64 x.off, .int .i64 x.stop, .int .i64 x.row, .int .i64 0]

def gapL : List (List Nat) := [[32], [32, 32], [9], [10], [32, 10, 32], [13, 10]]
def gapR (gs : List Int) (i : Nat) : List Nat := if gs = [] then [32] else gapL.getD (modOf 6 (gs.getD (i % gs.length) 0)) []
def tailR (kind : Int) : List Nat := if kind = 4 then [10] else []

/-- What Lay's loop makes of the pieces. -/
def layAcc (gs : List Int) (ms : List (List UInt8)) : Nat → List Nat → List WT → List PV → List Nat × List WT
  | _, R, T, [] => (R, T)
  | i, R, T, p :: ps => layAcc gs ms (i + 1) (R ++ gapR gs i ++ writeR p.k p.n p.t ++ tailR (writeK p.k p.n ms))
      (T ++ [⟨writeK p.k p.n ms, writeR p.k p.n p.t, (encL (R ++ gapR gs i)).length, (encL (R ++ gapR gs i ++ writeR p.k p.n p.t)).length, 1 + nlB (encL (R ++ gapR gs i))⟩]) ps

theorem layAcc_pre (gs : List Int) (ms : List (List UInt8)) : ∀ (ps : List PV) (i : Nat) (R : List Nat) (T : List WT), ∃ R', (layAcc gs ms i R T ps).1 = R ++ R'
  | [], _, R, T => ⟨[], by simp [layAcc]⟩
  | p :: ps, i, R, T => by
    obtain ⟨R', h⟩ := layAcc_pre gs ms ps (i + 1) (R ++ gapR gs i ++ writeR p.k p.n p.t ++ tailR (writeK p.k p.n ms)) _
    exact ⟨gapR gs i ++ writeR p.k p.n p.t ++ tailR (writeK p.k p.n ms) ++ R', by unfold layAcc; rw [h]; simp⟩
theorem layAcc_len (gs : List Int) (ms : List (List UInt8)) : ∀ (ps : List PV) (i : Nat) (R : List Nat) (T : List WT), (layAcc gs ms i R T ps).2.length = T.length + ps.length
  | [], _, R, T => by simp [layAcc]
  | p :: ps, i, R, T => by
    unfold layAcc; rw [layAcc_len gs ms ps]; simp; omega

/-- While Lay runs. -/
structure LayMem (B b8 b9 : Nat) (R : List Nat) (T : List WT) (v : Value) (w0 w : World) : Prop where
  str : StrBlk b8 (BA R) w
  row : IntBlk b9 ((1 + nlB (encL R) : Nat) : Int) w
  own : w.ownsRow B 40 6 v T.length (T.flatMap WT.cells)
  below : Below B w0 w
  bw : B ≤ w.heap.size
  h8 : B ≤ b8
  h9 : B ≤ b9

section
variable {B b8 b9 : Nat} {R : List Nat} {T : List WT} {v : Value} {w0 w : World}
theorem LayMem.alloc (h : LayMem B b8 b9 R T v w0 w) (o : Obj) : LayMem B b8 b9 R T v w0 (w.alloc o) :=
  ⟨row_alloc h.str, row_alloc h.row, h.own.alloc _, h.below.alloc h.bw _, by rw [World.size_alloc]; have := h.bw; omega, h.h8, h.h9⟩
theorem LayMem.on (h : LayMem B b8 b9 R T v w0 w) {w' : World} (hb : Below w.heap.size w w') : LayMem B b8 b9 R T v w0 w' :=
  ⟨(hb.block b8 (lt_of_block h.str)).trans h.str, (hb.block b9 (lt_of_block h.row)).trans h.row, owns_below h.own hb, h.below.trans (hb.mono h.bw), Nat.le_trans h.bw hb.size, h.h8, h.h9⟩
/-- Behind a call of the closure. -/
theorem LayMem.add (h : LayMem B b8 b9 R T v w0 w) {w' : World} {A : List Nat} (q8 : StrBlk b8 (BA R ++ BA A) w') (q9 : IntBlk b9 ((1 + nlB (encL R) + nlB (BA A).data.toList : Nat) : Int) w') (hT : Two b8 b9 w w') : LayMem B b8 b9 (R ++ A) T v w0 w' := by
  have hz := hT.size
  refine ⟨by rw [← ba_app]; exact q8, ?_, ?_, h.below.trans ⟨hT.os, hT.tape, hT.output, by omega, fun k hk => hT.block k (by have := h.h8; omega) (by have := h.h9; omega)⟩, by have := h.bw; omega, h.h8, h.h9⟩
  · have e : nlB (encL (R ++ A)) = nlB (encL R) + nlB (BA A).data.toList := by
      unfold nlB; rw [encL_append, List.count_append]; simp [BA]
    rw [e]
    have e2 : 1 + nlB (encL R) + nlB (BA A).data.toList = 1 + (nlB (encL R) + nlB (BA A).data.toList) := by omega
    rw [← e2]; exact q9
  · obtain ⟨h1, h2⟩ := h.own
    refine ⟨h1, ?_⟩
    rcases h2 with h2 | ⟨g, cap, cur, hv, hg, hh, r⟩
    · exact Or.inl h2
    · refine Or.inr ⟨g, cap, cur, hv, hg, ?_, r⟩
      rw [hT.block g (fun e => by subst e; have := hh.symm.trans h.str; cases this) (fun e => by subst e; have := hh.symm.trans h.row; cases this)]
      exact hh
/-- A store into a token's block that is no row's. -/
theorem LayMem.setTok (h : LayMem B b8 b9 R T v w0 w) {bt i : Nat} (u : Value) (hB : B ≤ bt) (n8 : b8 ≠ bt) (n9 : b9 ≠ bt) (hv : v.ownBlock ≠ some bt) : LayMem B b8 b9 R T v w0 (w.setCell ⟨bt, i, none⟩ u) :=
  ⟨row_set_other u n8 h.str, row_set_other u n9 h.row, ownsRow_setCell_other h.own hv u, h.below.setCell (p := ⟨bt, i, none⟩) hB u, by simp only [World.setCell, Array.size_modify]; exact h.bw, h.h8, h.h9⟩
theorem LayMem.grown (h : LayMem B b8 b9 R T v w0 w) {w' : World} {v' : Value} {x : WT} (ho : w'.ownsRow B 40 6 v' (T.length + 1) (T.flatMap WT.cells ++ x.cells)) (g : w.grownBy w' v.ownBlock) : LayMem B b8 b9 R (T ++ [x]) v' w0 w' := by
  refine ⟨?_, ?_, by rw [List.length_append, List.flatMap_append]; simpa using ho, h.below.grown g h.bw (fun k e => (h.own.lt k e).1), Nat.le_trans h.bw g.size, h.h8, h.h9⟩
  · exact (g.block b8 (lt_of_block h.str) (fun e => own_ne h.own h.str (by decide) e.symm)).trans h.str
  · exact (g.block b9 (lt_of_block h.row) (fun e => own_ne h.own h.row (by decide) e.symm)).trans h.row
end

/-- A slice of pieces, of ints, that is handed on. -/
def PiecesAt (v : Value) (ps : List PV) (w : World) : Prop :=
  ∃ ao c, v = .slice ao ps.length c ∧ ∀ j, j < ps.length → ∃ b o, ao = some ⟨b, o, none⟩ ∧ b < w.heap.size ∧
    w.cell? ⟨b, o + j * 3, none⟩ = some (.int .i64 (ps.getD j ⟨0, 0, ⟨#[]⟩⟩).k) ∧ w.cell? ⟨b, o + j * 3 + 1, none⟩ = some (.int .i64 (ps.getD j ⟨0, 0, ⟨#[]⟩⟩).n) ∧ w.cell? ⟨b, o + j * 3 + 2, none⟩ = some (.string (ps.getD j ⟨0, 0, ⟨#[]⟩⟩).t)
def IntsAt (v : Value) (gs : List Int) (w : World) : Prop :=
  ∃ ao c, v = .slice ao gs.length c ∧ ∀ j, j < gs.length → ∃ a, ao = some a ∧ a.block < w.heap.size ∧ w.cell? (a.add j) = some (.int .i64 (gs.getD j 0))

theorem PiecesAt.below {v : Value} {ps : List PV} {w w' : World} (h : PiecesAt v ps w) (hb : Below w.heap.size w w') : PiecesAt v ps w' := by
  obtain ⟨ao, c, h1, h2⟩ := h
  refine ⟨ao, c, h1, fun j hj => ?_⟩
  obtain ⟨b, o, e, h3, h4, h5, h6⟩ := h2 j hj
  exact ⟨b, o, e, Nat.lt_of_lt_of_le h3 hb.size, (hb.cell (p := ⟨b, _, none⟩) h3).trans h4, (hb.cell (p := ⟨b, _, none⟩) h3).trans h5, (hb.cell (p := ⟨b, _, none⟩) h3).trans h6⟩
theorem IntsAt.nil (w : World) : IntsAt (.slice none 0 0) [] w := ⟨none, 0, rfl, fun j hj => by cases hj⟩
theorem IntsAt.below {v : Value} {gs : List Int} {w w' : World} (h : IntsAt v gs w) (hb : Below w.heap.size w w') : IntsAt v gs w' := by
  obtain ⟨ao, c, h1, h2⟩ := h
  refine ⟨ao, c, h1, fun j hj => ?_⟩
  obtain ⟨a, e, h3, h4⟩ := h2 j hj
  exact ⟨a, e, Nat.lt_of_lt_of_le h3 hb.size, (hb.cell (p := a.add j) (by rw [Addr.add_block]; exact h3)).trans h4⟩

/-- A piece's block. -/
def PieceAt (b : Nat) (k n : Int) (t : ByteArray) (w : World) : Prop := w.heap[b]? = some (.cells #[.int .i64 k, .int .i64 n, .string t] 43 (0, 0))

theorem PieceAt.below {b : Nat} {k n : Int} {t : ByteArray} {w w' : World} {B : Nat} (h : PieceAt b k n t w) (hb : Below B w w') (hB : b < B) : PieceAt b k n t w' := (hb.block b hB).trans h
theorem PieceAt.cells {b : Nat} {k n : Int} {t : ByteArray} {w : World} (h : PieceAt b k n t w) :
    w.cell? ⟨b, 0, none⟩ = some (.int .i64 k) ∧ w.cell? ⟨b, 1, none⟩ = some (.int .i64 n) ∧ w.cell? ⟨b, 2, none⟩ = some (.string t) ∧ w.frozen? ⟨b, 0, none⟩ = false :=
  ⟨cell_row h 0 _ rfl, cell_row h 1 _ rfl, cell_row h 2 _ rfl, free_row h 0⟩

end Go.Proofs.YtplljfbbipeakaaDoor
