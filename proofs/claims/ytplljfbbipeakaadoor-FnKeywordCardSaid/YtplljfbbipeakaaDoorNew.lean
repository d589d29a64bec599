/- scanner.New, walked. -/
import Derived.Test.YtplljfbbipeakaaDoorRdAll
import Derived.Test.YtplljfbbipeakaaDoorKeys
import Derived.Test.YtplljfbbipeakaaDoorKw
import Derived.Test.YtplljfbbipeakaaDoorPlE
namespace Go.Proofs.YtplljfbbipeakaaDoor
open Go Go.RowKit Go.Maps Go.WideMaps Go.WideElems

/-- Block kb is a map of at most n entries, from words to kinds. -/
def KwsN (kb n : Nat) (kh : List UInt8 → Bool) (kt : List UInt8 → Int) (w : World) : Prop :=
  ∃ D : DataW Unit, w.ownsMap Tryd.prog 9 (plainElem Tryd.prog 55) kb n D ∧ ∀ l, Maps.has D (.string l) = kh l ∧ (kh l = true → D.atKey (.string l) (.lit (.int .u8 0)) = .lit (.int .u8 (kt l)))

theorem KwsN.kws {kb n : Nat} {kh : List UInt8 → Bool} {kt : List UInt8 → Int} {w : World} (h : KwsN kb n kh kt w) (hn : n ≤ 1099511627776) : Kws kb kh kt w := by
  obtain ⟨D, h1, h2⟩ := h
  exact ⟨n, D, h1, hn, h2⟩
theorem KwsN.kept {B kb n : Nat} {kh : List UInt8 → Bool} {kt : List UInt8 → Int} {w w' : World} (h : KwsN kb n kh kt w) (k : Kept B w w') : KwsN kb n kh kt w' := by
  obtain ⟨D, ⟨es, clock, hb, F, hs, hD⟩, hv⟩ := h
  refine ⟨D, ⟨es, clock, ?_, F, hs, hD⟩, hv⟩
  rw [k.block kb (lt_of_block hb) (Or.inr fun o ho => by rw [hb] at ho; cases ho; rfl)]
  exact hb

/-- What New needs of the world: the tables, the keyword map, io.EOF, all of them below B. -/
structure Base (B : Nat) (kh : List UInt8 → Bool) (kt : List UInt8 → Int) (w : World) : Prop where
  b6 : 6 ≤ B
  bw : B ≤ w.heap.size
  tabs : Lib.Utf8Tabs 3 4 w
  eof : ∃ aE : Addr, w.cell? ⟨2, 0, none⟩ = some (.iface 153 (.pointer (some aE)))
  kw : ∃ (b n : Nat) (D : DataW Unit), w.cell? ⟨0, 0, none⟩ = some (.map (some b)) ∧ w.ownsMap Tryd.prog 9 (plainElem Tryd.prog 55) b n D ∧ (b < B ∧ Maps.size D ≤ 50) ∧
    ∀ l, Maps.has D (.string l) = kh l ∧ (kh l = true → D.atKey (.string l) (.lit (.int .u8 0)) = .lit (.int .u8 (kt l)))

theorem Base.below {B : Nat} {kh : List UInt8 → Bool} {kt : List UInt8 → Int} {w w' : World} (h : Base B kh kt w) (hb : Below B w w') : Base B kh kt w' := by
  obtain ⟨b, n, D, h1, h2, h3, h4⟩ := h.kw
  obtain ⟨aE, he⟩ := h.eof
  have h6 := h.b6
  refine ⟨h6, Nat.le_trans h.bw hb.size, tabs_below h6 h.tabs hb, ⟨aE, ?_⟩, b, n, D, ?_, ?_, h3, h4⟩
  · exact (hb.cell (p := ⟨2, 0, none⟩) (show 2 < B by omega)).trans he
  · exact (hb.cell (p := ⟨0, 0, none⟩) (show 0 < B by omega)).trans h1
  · obtain ⟨es, clock, hbk, F, q1, q2⟩ := h2
    exact ⟨es, clock, (hb.block b h3.1).trans hbk, F, q1, q2⟩

theorem Base.mono {B B' : Nat} {kh : List UInt8 → Bool} {kt : List UInt8 → Int} {w : World} (h : Base B kh kt w) (hB : B ≤ B') (hw : B' ≤ w.heap.size) : Base B' kh kt w := by
  obtain ⟨b, n, D, h1, h2, h3, h4⟩ := h.kw
  exact ⟨Nat.le_trans h.b6 hB, hw, h.tabs, h.eof, b, n, D, h1, h2, ⟨by omega, h3.2⟩, h4⟩

theorem gen_calls {P : Program} {f : FuncId} {args : Array Value} {Q : Ending → World → Prop} {X : World} (K : World → Prop) (h : K X) (k : ∀ W, K W → Calls P f args W Q) : Calls P f args X Q := k X h

/-- The same over 'Stays': the reader's block alone may turn, and it lies beyond B. -/
theorem Stays.toBelow {B n rb : Nat} {w w' : World} (h : Stays n rb w w') (hB : B ≤ n) (hr : B ≤ rb) : Below B w w' :=
  ⟨h.os, h.tape, h.output, h.size, fun k hk => h.block k (by omega) (by omega)⟩

def NewPost (B : Nat) (kh : List UInt8 → Bool) (kt : List UInt8 → Int) (bs : ByteArray) (w : World) (e : Ending) (w' : World) : Prop :=
  ∃ sb kb bb, e = .returned (.tuple #[.pointer (some ⟨sb, 0, none⟩), .nilIface]) ∧ Scn B sb kb bb bs (sNew bs) w' ∧ KwsN kb 50 kh kt w' ∧ B ≤ kb ∧ Below B w w'

set_option maxHeartbeats 2000000 in
set_option maxRecDepth 100000 in
theorem new_walk {kh : List UInt8 → Bool} {kt : List UInt8 → Int} {B : Nat} {w : World} {rb : Nat} {bs : ByteArray} {pr0 : Int} (hB : Base B kh kt w) (hBr : B ≤ rb)
    (hr : w.heap[rb]? = some (.cells #[.string bs, .int .i64 0, .int .i64 pr0] 90 (0, 0))) (hsz : bs.size ≤ 274877906944) :
    Calls Tryd.prog 39 #[.iface 66 (.pointer (some ⟨rb, 0, none⟩))] w (NewPost B kh kt bs w) := by
  obtain ⟨aE, hE⟩ := hB.eof
  have hBw := hB.bw
  have HB := Lib.hid hB
  have HR := Lib.hid hr
  have HE := Lib.hid hE
  clear hB hr hE
  go_enter Tryd.func39, Tryd.ntmps39
  go_wp2_with fail
  refine (readAll_walk HR.out (by omega) HE.out).mono ?_
  rintro e w1 ⟨bb, cap, rfl, hcap, hbb, hby, hst⟩
  have hbl := hst.toBelow hBw hBr
  have hB1 := HB.out.below hbl
  obtain ⟨b, n, D, k1, k2, k3, k4⟩ := hB1.kw
  have HBL := Lib.hid hbl
  have HB1 := Lib.hid hB1
  have HBY := Lib.hid hby
  have HK4 := Lib.hid k4
  have HK := Lib.hid (keywords_walk b n D w1 k1 k2 (by unfold maxLen; omega))
  have hs1 := hst.size
  have hbb1 : bb < w1.heap.size := by obtain ⟨cur, f, h1, _⟩ := hby; exact lt_of_block h1
  clear hbl hB1 hby k4 k1 k2 hst
  go_wp2_with fail
  refine HK.out.mono ?_
  rintro e w2 ⟨rfl, hm, hb2⟩
  have HM := Lib.hid hm
  have HB2 := Lib.hid hb2
  clear hm hb2
  go_wp2_with fail
  have hs2 := HB2.out.size
  have hBlow : Below B w w2 := HBL.out.trans (HB2.out.mono (by omega))
  have HBlow := Lib.hid hBlow
  clear hBlow
  refine gen_calls (fun W => Scn B (w2.heap.size + 1) w1.heap.size bb bs s00 W ∧ KwsN w1.heap.size 50 kh kt W ∧ Below B w W) ⟨?_, ?_, ?_⟩ ?_
  · have hB6 := HB.out.b6
    have hb3 : Below B w ((w2.alloc (.cells #[] 3)).alloc (.cells (cellsOf w1.heap.size bb bs.size cap (.slice none 0 0) (.slice (some ⟨w2.heap.size, 0, none⟩) 0 0) s00) 88)) := (HBlow.out.alloc (by omega) _).alloc (by simp; omega) _
    refine ⟨⟨hB6, by simp; omega, by omega, tabs_below hB6 HB.out.tabs hb3, ?_, cap, .slice none 0 0, w2.heap.size, 0, 0, [], [], ?_, hcap, ⟨by simp [s00], Or.inl ⟨rfl, rfl⟩⟩, ⟨by simp, Or.inr ⟨w2.heap.size, 0, #[], rfl, by omega, ?_, Nat.zero_le _, by unfold maxLen; omega, by simp, by simp⟩⟩, Nat.zero_le _⟩, ⟨by simp [s00], by simp [s00], by simp [s00], by simp [s00], by simp [s00], by simp [s00], by simp [s00], by simp [s00]⟩, hsz⟩
    · obtain ⟨cur, f, q1, q2⟩ := HBY.out
      exact ⟨cur, f, row_alloc (row_alloc ((HB2.out.block bb hbb1).trans q1)), q2⟩
    · have := heap_alloc_new (w2.alloc (.cells #[] 3)) (.cells (cellsOf w1.heap.size bb bs.size cap (.slice none 0 0) (.slice (some ⟨w2.heap.size, 0, none⟩) 0 0) s00) 88)
      rw [World.size_alloc] at this
      exact this
    · exact row_alloc (heap_alloc_new w2 _)
  · have k0 : KwsN w1.heap.size 50 kh kt w2 := ⟨D, HM.out.mono (by omega), HK4.out⟩
    exact k0.kept (((Kept.refl B w2).alloc _).alloc _)
  · exact (HBlow.out.alloc (by omega) _).alloc (by simp; omega) _
  rintro W ⟨hS, hK, hL⟩
  refine (next_any hS).mono ?_
  rintro e w3 ⟨rfl, hS3, hK3⟩
  have hL3 : Below B w w3 := hL.trans (hK3.toBelow hS.mem.bw)
  have hKw3 := hK.kept hK3
  have c8 : ∃ cv, w3.cell? ⟨w2.heap.size + 1, 8, none⟩ = some (.int .i32 (nextS bs s00).curr) ∧ cv = 0 := by
    obtain ⟨cap, ev, tg, tc, tn, txs, exs, r1, _⟩ := hS3.mem.rows
    exact ⟨0, cell_row r1 8 _ rfl, rfl⟩
  obtain ⟨_, c8, _⟩ := c8
  have HS3 := Lib.hid hS3
  have HL3 := Lib.hid hL3
  have HKw3 := Lib.hid hKw3
  clear hS hK hL hS3 hK3 hL3 hKw3
  by_cases hbom : (nextS bs s00).curr = 65279
  · have hq : ((nextS bs s00).curr == 65279) = true := by rw [hbom]; rfl
    have HBOM := Lib.hid hbom
    clear hbom
    go_wp2_with fail
    refine (next_any HS3.out).mono ?_
    rintro e w4 ⟨rfl, hS4, hK4⟩
    have hL4 : Below B w w4 := HL3.out.trans (hK4.toBelow HS3.out.mem.bw)
    have hKw4 := HKw3.out.kept hK4
    have HS4 := Lib.hid hS4
    have HL4 := Lib.hid hL4
    have HKw4 := Lib.hid hKw4
    clear hS4 hK4 hL4 hKw4
    go_wp2
    go_ret2
    exact ⟨_, _, _, rfl, by unfold sNew; rw [if_pos HBOM.out]; exact HS4.out, HKw4.out, by omega, HL4.out⟩
  · have hq : ((nextS bs s00).curr == 65279) = false := by simpa using hbom
    have HBOM := Lib.hid hbom
    clear hbom
    go_wp2
    go_ret2
    exact ⟨_, _, _, rfl, by unfold sNew; rw [if_neg HBOM.out]; exact HS3.out, HKw3.out, by omega, HL3.out⟩

end Go.Proofs.YtplljfbbipeakaaDoor
