/- Scanner.Scan: what a token is; small facts for the walk. -/
import Derived.Test.YtplljfbbipeakaaDoorKw
import Derived.Test.YtplljfbbipeakaaDoorStr
import Derived.Test.YtplljfbbipeakaaDoorComm
import Derived.Test.YtplljfbbipeakaaDoorNum
import Derived.Deep.DeepCutAuto
namespace Go.Proofs.YtplljfbbipeakaaDoor
open Go Go.RowKit

theorem Kept.setNew {B : Nat} {a w : World} (h : Kept B a w) {p : Addr} (hp : a.heap.size ≤ p.block) (u : Value) : Kept B a (w.setCell p u) :=
  ⟨h.os, h.tape, h.output, by simp only [World.setCell, Array.size_modify]; exact h.size, fun k hk hc => by
    rw [Below.heap_setCell _ _ _ _ (by omega)]; exact h.block k hk hc⟩

theorem Mem.set_other {B sb kb bb : Nat} {bs : ByteArray} {s : SS} {w : World} (h : Mem B sb kb bb bs s w) {b i : Nat} {cs : Array Value} {f : Nat × Nat} (hB : B ≤ b) (hb : w.heap[b]? = some (.cells cs 77 f)) (v : Value) :
    Mem B sb kb bb bs s (w.setCell ⟨b, i, none⟩ v) := by
  obtain ⟨cap, ev, tg, tc, tn, txs, exs, h1, h2, h3, h4, h5⟩ := h.rows
  obtain ⟨cur, fr, b1, b2⟩ := h.bytes
  have n1 : sb ≠ b := fun e => by subst e; rw [h1] at hb; simp at hb
  have n2 : bb ≠ b := fun e => by subst e; rw [b1] at hb; simp at hb
  refine ⟨h.b6, by simp only [World.setCell, Array.size_modify]; exact h.bw, h.bsb, ?_, ⟨cur, fr, row_set_other v n2 b1, b2⟩, cap, ev, tg, tc, tn, txs, exs, row_set_other v n1 h1, h2, owns_set h3 hb (by decide) v, owns_set h4 hb (by decide) v, h5⟩
  exact tabs_below h.b6 h.tabs ((Below.refl B w).setCell (p := ⟨b, i, none⟩) hB v)

theorem SS.Ok.clr {n : Nat} {s : SS} (h : s.Ok n) : s.clr.Ok n := ⟨h.off, h.row, h.col, h.width, h.wo, h.lo, h.hi, Nat.zero_le _⟩

theorem gen_post {P : Program} {fn : Func} {R : Ending → World → Prop} {e : Exit} {a : Act} {X : World} (K : World → Prop) (h : K X) (k : ∀ W, K W → bodyPost P fn R e a W) : bodyPost P fn R e a X := k X h

theorem errs_form {w : World} {B e size n : Nat} {v : Value} {xs : List Value} (h : w.ownsRow B e size v n xs) : ∃ ea ec, v = .slice ea n ec := by
  rcases h.2 with ⟨rfl, rfl⟩ | ⟨g, cap, cur, rfl, _⟩
  · exact ⟨_, _, rfl⟩
  · exact ⟨_, _, rfl⟩

theorem Kept.row77 {B : Nat} {w w' : World} (h : Kept B w w') {b : Nat} {cs : Array Value} {f : Nat × Nat} (hb : w.heap[b]? = some (.cells cs 77 f)) : w'.heap[b]? = some (.cells cs 77 f) := by
  rw [h.block b (lt_of_block hb) (Or.inr fun o ho => by rw [hb] at ho; cases ho; rfl)]
  exact hb

theorem Rows1.alloc {B sb kb bb : Nat} {bs : ByteArray} {s : SS} {cap : Nat} {ev : Value} {tg tc tn : Nat} {w : World} (r : Rows1 B sb kb bb bs s cap ev tg tc tn w) (o : Obj) : Rows1 B sb kb bb bs s cap ev tg tc tn (w.alloc o) :=
  r.below ⟨rfl, rfl, rfl, by simp, fun k hk => Below.heap_alloc _ _ _ hk⟩

/-- What Scan leaves. -/
def ScanPost (B sb kb bb : Nat) (bs : ByteArray) (s s' : SS) (tk : Int) (lit : ByteArray) (w : World) (e : Ending) (w' : World) : Prop :=
  ∃ (ta : Option Addr) (tn tc : Nat) (ea : Option Addr) (ec : Nat), e = .returned (.tuple #[.int .u8 tk, .agg #[.slice ta tn tc, .int .i64 ((s.off : Int) - (s.width : Int)), .int .i64 ((s'.off : Int) - (s'.width : Int)), .int .i64 s.row, .int .i64 s.col], .string lit, .slice ea s'.errs ec]) ∧
    Scn B sb kb bb bs s'.clr w' ∧ Kept B w w'

/-- Where the ways of Scan meet. -/
def ScanMid (B sb kb bb : Nat) (bs : ByteArray) (s' : SS) (tk : Int) (lit : ByteArray) (W : World) (t l : Value) (wc : World) : Prop :=
  t = .int .u8 tk ∧ l = .string lit ∧ Scn B sb kb bb bs s' wc ∧ Kept B W wc

end Go.Proofs.YtplljfbbipeakaaDoor
