/- scanner.New, walked. impl.keyword, Scanner.AddKeyword, walked; the keywords that a list of words adds. -/
import Derived.Test.YtplljfbbipeakaaDoorRdAll
import Derived.Test.YtplljfbbipeakaaDoorKeys
import Derived.Test.YtplljfbbipeakaaDoorKw
import Derived.Test.YtplljfbbipeakaaDoorPl1
import Derived.Deep.LoopGhost
import Derived.Maps.OwnSet
namespace Go.Proofs.YtplljfbbipeakaaDoor
open Go Go.RowKit Go.Maps Go.WideMaps Go.WideElems

/-- Block kb is a map of at most n entries, from words to kinds. -/
def KwsN (kb n : Nat) (kh : List UInt8 → Bool) (kt : List UInt8 → Int) (w : World) : Prop :=
  ∃ D : DataW Unit, w.ownsMap Tryd.prog 9 (plainElem Tryd.prog 55) kb n D ∧ ∀ l, Maps.has D (.string l) = kh l ∧ (kh l = true → D.atKey (.string l) (.lit (.int .u8 0)) = .lit (.int .u8 (kt l)))

theorem KwsN.kws {kb n : Nat} {kh : List UInt8 → Bool} {kt : List UInt8 → Int} {w : World} (h : KwsN kb n kh kt w) (hn : n ≤ 1099511627776) : Kws kb kh kt w := by
  obtain ⟨D, h1, h2⟩ := h
  exact ⟨n, D, h1, hn, h2⟩
theorem KwsN.kept {B kb n : Nat} {kh : List UInt8 → Bool} {kt : List UInt8 → Int} {w w' : World} (h : KwsN kb n kh kt w) (k : Kept B w w') : KwsN kb n kh kt w' := by
  obtain ⟨D, ⟨es, clock, hb, F, hs, hD⟩, hv⟩ := h
  refine ⟨D, ⟨es, clock, ?_, F, hs, hD⟩, hv⟩
  rw [k.block kb (lt_of_block hb) (Or.inr fun o ho => by rw [hb] at ho; cases ho; rfl)]
  exact hb

/-- What New needs of the world: the tables, the keyword map, io.EOF, all of them below B. -/
structure Base (B : Nat) (kh : List UInt8 → Bool) (kt : List UInt8 → Int) (w : World) : Prop where
  b6 : 6 ≤ B
  bw : B ≤ w.heap.size
  tabs : Lib.Utf8Tabs 3 4 w
  eof : ∃ aE : Addr, w.cell? ⟨2, 0, none⟩ = some (.iface 153 (.pointer (some aE)))
  kw : ∃ (b n : Nat) (D : DataW Unit), w.cell? ⟨0, 0, none⟩ = some (.map (some b)) ∧ w.ownsMap Tryd.prog 9 (plainElem Tryd.prog 55) b n D ∧ (b < B ∧ Maps.size D ≤ 50) ∧
    ∀ l, Maps.has D (.string l) = kh l ∧ (kh l = true → D.atKey (.string l) (.lit (.int .u8 0)) = .lit (.int .u8 (kt l)))

theorem Base.below {B : Nat} {kh : List UInt8 → Bool} {kt : List UInt8 → Int} {w w' : World} (h : Base B kh kt w) (hb : Below B w w') : Base B kh kt w' := by
  obtain ⟨b, n, D, h1, h2, h3, h4⟩ := h.kw
  obtain ⟨aE, he⟩ := h.eof
  have h6 := h.b6
  refine ⟨h6, Nat.le_trans h.bw hb.size, tabs_below h6 h.tabs hb, ⟨aE, ?_⟩, b, n, D, ?_, ?_, h3, h4⟩
  · exact (hb.cell (p := ⟨2, 0, none⟩) (show 2 < B by omega)).trans he
  · exact (hb.cell (p := ⟨0, 0, none⟩) (show 0 < B by omega)).trans h1
  · obtain ⟨es, clock, hbk, F, q1, q2⟩ := h2
    exact ⟨es, clock, (hb.block b h3.1).trans hbk, F, q1, q2⟩

theorem Base.mono {B B' : Nat} {kh : List UInt8 → Bool} {kt : List UInt8 → Int} {w : World} (h : Base B kh kt w) (hB : B ≤ B') (hw : B' ≤ w.heap.size) : Base B' kh kt w := by
  obtain ⟨b, n, D, h1, h2, h3, h4⟩ := h.kw
  exact ⟨Nat.le_trans h.b6 hB, hw, h.tabs, h.eof, b, n, D, h1, h2, ⟨by omega, h3.2⟩, h4⟩

theorem gen_calls {P : Program} {f : FuncId} {args : Array Value} {Q : Ending → World → Prop} {X : World} (K : World → Prop) (h : K X) (k : ∀ W, K W → Calls P f args W Q) : Calls P f args X Q := k X h

/-- The same over 'Stays': the reader's block alone may turn, and it lies beyond B. -/
theorem Stays.toBelow {B n rb : Nat} {w w' : World} (h : Stays n rb w w') (hB : B ≤ n) (hr : B ≤ rb) : Below B w w' :=
  ⟨h.os, h.tape, h.output, h.size, fun k hk => h.block k (by omega) (by omega)⟩

def NewPost (B : Nat) (kh : List UInt8 → Bool) (kt : List UInt8 → Int) (bs : ByteArray) (w : World) (e : Ending) (w' : World) : Prop :=
  ∃ sb kb bb, e = .returned (.tuple #[.pointer (some ⟨sb, 0, none⟩), .nilIface]) ∧ Scn B sb kb bb bs (sNew bs) w' ∧ KwsN kb 50 kh kt w' ∧ B ≤ kb ∧ Below B w w'

set_option maxHeartbeats 2000000 in
set_option maxRecDepth 100000 in
theorem new_walk {kh : List UInt8 → Bool} {kt : List UInt8 → Int} {B : Nat} {w : World} {rb : Nat} {bs : ByteArray} {pr0 : Int} (hB : Base B kh kt w) (hBr : B ≤ rb)
    (hr : w.heap[rb]? = some (.cells #[.string bs, .int .i64 0, .int .i64 pr0] 90 (0, 0))) (hsz : bs.size ≤ 274877906944) :
    Calls Tryd.prog 39 #[.iface 66 (.pointer (some ⟨rb, 0, none⟩))] w (NewPost B kh kt bs w) := by
  obtain ⟨aE, hE⟩ := hB.eof
  have hBw := hB.bw
  have HB := Lib.hid hB
  have HR := Lib.hid hr
  have HE := Lib.hid hE
  clear hB hr hE
  go_enter Tryd.func39, Tryd.ntmps39
  go_wp2_with fail
  refine (readAll_walk HR.out (by omega) HE.out).mono ?_
  rintro e w1 ⟨bb, cap, rfl, hcap, hbb, hby, hst⟩
  have hbl := hst.toBelow hBw hBr
  have hB1 := HB.out.below hbl
  obtain ⟨b, n, D, k1, k2, k3, k4⟩ := hB1.kw
  have HBL := Lib.hid hbl
  have HB1 := Lib.hid hB1
  have HBY := Lib.hid hby
  have HK4 := Lib.hid k4
  have HK := Lib.hid (keywords_walk b n D w1 k1 k2 (by unfold maxLen; omega))
  have hs1 := hst.size
  have hbb1 : bb < w1.heap.size := by obtain ⟨cur, f, h1, _⟩ := hby; exact lt_of_block h1
  clear hbl hB1 hby k4 k1 k2 hst
  go_wp2_with fail
  refine HK.out.mono ?_
  rintro e w2 ⟨rfl, hm, hb2⟩
  have HM := Lib.hid hm
  have HB2 := Lib.hid hb2
  clear hm hb2
  go_wp2_with fail
  have hs2 := HB2.out.size
  have hBlow : Below B w w2 := HBL.out.trans (HB2.out.mono (by omega))
  have HBlow := Lib.hid hBlow
  clear hBlow
  refine gen_calls (fun W => Scn B (w2.heap.size + 1) w1.heap.size bb bs s00 W ∧ KwsN w1.heap.size 50 kh kt W ∧ Below B w W) ⟨?_, ?_, ?_⟩ ?_
  · have hB6 := HB.out.b6
    have hb3 : Below B w ((w2.alloc (.cells #[] 3)).alloc (.cells (cellsOf w1.heap.size bb bs.size cap (.slice none 0 0) (.slice (some ⟨w2.heap.size, 0, none⟩) 0 0) s00) 88)) := (HBlow.out.alloc (by omega) _).alloc (by simp; omega) _
    refine ⟨⟨hB6, by simp; omega, by omega, tabs_below hB6 HB.out.tabs hb3, ?_, cap, .slice none 0 0, w2.heap.size, 0, 0, [], [], ?_, hcap, ⟨by simp [s00], Or.inl ⟨rfl, rfl⟩⟩, ⟨by simp, Or.inr ⟨w2.heap.size, 0, #[], rfl, by omega, ?_, Nat.zero_le _, by unfold maxLen; omega, by simp, by simp⟩⟩, Nat.zero_le _⟩, ⟨by simp [s00], by simp [s00], by simp [s00], by simp [s00], by simp [s00], by simp [s00], by simp [s00], by simp [s00]⟩, hsz⟩
    · obtain ⟨cur, f, q1, q2⟩ := HBY.out
      exact ⟨cur, f, row_alloc (row_alloc ((HB2.out.block bb hbb1).trans q1)), q2⟩
    · have := heap_alloc_new (w2.alloc (.cells #[] 3)) (.cells (cellsOf w1.heap.size bb bs.size cap (.slice none 0 0) (.slice (some ⟨w2.heap.size, 0, none⟩) 0 0) s00) 88)
      rw [World.size_alloc] at this
      exact this
    · exact row_alloc (heap_alloc_new w2 _)
  · have k0 : KwsN w1.heap.size 50 kh kt w2 := ⟨D, HM.out.mono (by omega), HK4.out⟩
    exact k0.kept (((Kept.refl B w2).alloc _).alloc _)
  · exact (HBlow.out.alloc (by omega) _).alloc (by simp; omega) _
  rintro W ⟨hS, hK, hL⟩
  refine (next_any hS).mono ?_
  rintro e w3 ⟨rfl, hS3, hK3⟩
  have hL3 : Below B w w3 := hL.trans (hK3.toBelow hS.mem.bw)
  have hKw3 := hK.kept hK3
  have c8 : ∃ cv, w3.cell? ⟨w2.heap.size + 1, 8, none⟩ = some (.int .i32 (nextS bs s00).curr) ∧ cv = 0 := by
    obtain ⟨cap, ev, tg, tc, tn, txs, exs, r1, _⟩ := hS3.mem.rows
    exact ⟨0, cell_row r1 8 _ rfl, rfl⟩
  obtain ⟨_, c8, _⟩ := c8
  have HS3 := Lib.hid hS3
  have HL3 := Lib.hid hL3
  have HKw3 := Lib.hid hKw3
  clear hS hK hL hS3 hK3 hL3 hKw3
  by_cases hbom : (nextS bs s00).curr = 65279
  · have hq : ((nextS bs s00).curr == 65279) = true := by rw [hbom]; rfl
    have HBOM := Lib.hid hbom
    clear hbom
    go_wp2_with fail
    refine (next_any HS3.out).mono ?_
    rintro e w4 ⟨rfl, hS4, hK4⟩
    have hL4 : Below B w w4 := HL3.out.trans (hK4.toBelow HS3.out.mem.bw)
    have hKw4 := HKw3.out.kept hK4
    have HS4 := Lib.hid hS4
    have HL4 := Lib.hid hL4
    have HKw4 := Lib.hid hKw4
    clear hS4 hK4 hL4 hKw4
    go_wp2
    go_ret2
    exact ⟨_, _, _, rfl, by unfold sNew; rw [if_pos HBOM.out]; exact HS4.out, HKw4.out, by omega, HL4.out⟩
  · have hq : ((nextS bs s00).curr == 65279) = false := by simpa using hbom
    have HBOM := Lib.hid hbom
    clear hbom
    go_wp2
    go_ret2
    exact ⟨_, _, _, rfl, by unfold sNew; rw [if_neg HBOM.out]; exact HS3.out, HKw3.out, by omega, HL3.out⟩

end Go.Proofs.YtplljfbbipeakaaDoor

namespace Go.Proofs.YtplljfbbipeakaaDoor
open Go Go.RowKit Go.Maps Go.WideMaps Go.WideElems

def wIn : List UInt8 := [105, 110]
def wEvery : List UInt8 := [101, 118, 101, 114, 121]
def wContains : List UInt8 := [99, 111, 110, 116, 97, 105, 110, 115]
def wIf : List UInt8 := [105, 102]

/-- impl.keyword. -/
def kwOf (l : List UInt8) : Option Int := if l = wIn then some 40 else if l = wEvery then some 49 else if l = wContains then some 50 else if l = wIf then some 51 else none

def kwRet (o : Option Int) : Value := match o with
  | some k => .tuple #[.int .u8 k, .bool true]
  | none => .tuple #[.int .u8 0, .bool false]

theorem tl_ne {s : ByteArray} {l : List UInt8} (h : s.data.toList ≠ l) : (s.toList == l) = false := by
  rw [ByteArray.toList_eq]; simpa using h
theorem ba_eq {s : ByteArray} {l : List UInt8} (h : s.data.toList = l) : s = ⟨l.toArray⟩ := by
  rw [← h]

set_option maxHeartbeats 1000000 in
theorem implKeyword_walk (s : ByteArray) (w : World) :
    Calls Tryd.prog 45 #[.string s] w fun e w' => e = .returned (kwRet (kwOf s.data.toList)) ∧ w = w' := by
  by_cases h1 : s.data.toList = wIn
  · obtain rfl := ba_eq h1
    clear h1
    go_enter Tryd.func45, Tryd.ntmps45
    go_wp2
    go_ret2
    exact ⟨rfl, rfl⟩
  · by_cases h2 : s.data.toList = wEvery
    · obtain rfl := ba_eq h2
      clear h1 h2
      go_enter Tryd.func45, Tryd.ntmps45
      go_wp2
      go_ret2
      exact ⟨rfl, rfl⟩
    · by_cases h3 : s.data.toList = wContains
      · obtain rfl := ba_eq h3
        clear h1 h2 h3
        go_enter Tryd.func45, Tryd.ntmps45
        go_wp2
        go_ret2
        exact ⟨rfl, rfl⟩
      · by_cases h4 : s.data.toList = wIf
        · obtain rfl := ba_eq h4
          clear h1 h2 h3 h4
          go_enter Tryd.func45, Tryd.ntmps45
          go_wp2
          go_ret2
          exact ⟨rfl, rfl⟩
        · have hk : kwOf s.data.toList = none := by unfold kwOf; rw [if_neg h1, if_neg h2, if_neg h3, if_neg h4]
          have HK := Lib.hid hk
          have t1 : (s.toList == [105, 110]) = false := tl_ne h1
          have t2 : (s.toList == [101, 118, 101, 114, 121]) = false := tl_ne h2
          have t3 : (s.toList == [99, 111, 110, 116, 97, 105, 110, 115]) = false := tl_ne h3
          have t4 : (s.toList == [105, 102]) = false := tl_ne h4
          clear h1 h2 h3 h4 hk
          go_enter Tryd.func45, Tryd.ntmps45
          go_wp2
          go_ret2
          rw [HK.out]
          exact ⟨rfl, rfl⟩

theorem implKeyword_none {s : ByteArray} {w : World} (h : kwOf s.data.toList = none) :
    Calls Tryd.prog 45 #[.string s] w fun e w' => e = .returned (.tuple #[.int .u8 0, .bool false]) ∧ w = w' := by
  have := implKeyword_walk s w
  rw [h] at this
  exact this
theorem implKeyword_some {s : ByteArray} {w : World} {k : Int} (h : kwOf s.data.toList = some k) :
    Calls Tryd.prog 45 #[.string s] w fun e w' => e = .returned (.tuple #[.int .u8 k, .bool true]) ∧ w = w' := by
  have := implKeyword_walk s w
  rw [h] at this
  exact this

def updH (kh : List UInt8 → Bool) (x : List UInt8) : List UInt8 → Bool := fun l => decide (l = x) || kh l
def updT (kt : List UInt8 → Int) (x : List UInt8) (k : Int) : List UInt8 → Int := fun l => if l = x then k else kt l

theorem kwsN_put {kh : List UInt8 → Bool} {kt : List UInt8 → Int} {D : DataW Unit} (hm : IsMap D) (hv : ∀ l, Maps.has D (.string l) = kh l ∧ (kh l = true → D.atKey (.string l) (.lit (.int .u8 0)) = .lit (.int .u8 (kt l)))) (x : List UInt8) (k : Int) :
    ∀ l, Maps.has (D.put (.string x) (.lit (.int .u8 k))) (.string l) = updH kh x l ∧ (updH kh x l = true → (D.put (.string x) (.lit (.int .u8 k))).atKey (.string l) (.lit (.int .u8 0)) = .lit (.int .u8 (updT kt x k l))) := by
  intro l
  by_cases h : l = x
  · subst h
    refine ⟨?_, fun _ => ?_⟩
    · rw [has_put_same hm (show WideAt.IsKeyLit (.string l) from trivial)]; simp [updH]
    · rw [atKey_put_same hm (show WideAt.IsKeyLit (.string l) from trivial)]; simp [updT]
  · have hne : (Lit.string l) ≠ .string x := fun e => h (by cases e; rfl)
    refine ⟨?_, fun hh => ?_⟩
    · rw [has_put_other hne, (hv l).1]; simp [updH, h]
    · rw [atKey_put_other hne]
      have : kh l = true := by simpa [updH, h] using hh
      rw [(hv l).2 this]; simp [updT, h]

/-- What AddKeyword adds. -/
def addH (kh : List UInt8 → Bool) (x : List UInt8) (k : Int) : List UInt8 → Bool := if k = 49 then updH (updH kh x) wIn else updH kh x
def addT (kt : List UInt8 → Int) (x : List UInt8) (k : Int) : List UInt8 → Int := if k = 49 then updT (updT kt x k) wIn 40 else updT kt x k

theorem grown2 {w w1 w2 : World} {r : Option Nat} (h : w.grownBy w1 r) (g : w1.grownBy w2 r) : w.grownBy w2 r :=
  ⟨g.os.trans h.os, g.tape.trans h.tape, g.output.trans h.output, Nat.le_trans h.size g.size, fun i hi hr => (g.block i (Nat.lt_of_lt_of_le hi h.size) hr).trans (h.block i hi hr)⟩

set_option maxHeartbeats 1000000 in
theorem addKeyword_walk (sb kb n : Nat) (kh : List UInt8 → Bool) (kt : List UInt8 → Int) (x : ByteArray) (k : Int) (w : World) (c0 : w.cell? ⟨sb, 0, none⟩ = some (.map (some kb))) (hne : sb ≠ kb) (hx : x.size ≤ maxLen) (hk : 0 ≤ k ∧ k ≤ 255)
    (hK : KwsN kb n kh kt w) (hn : n ≤ 1099511627776) :
    Calls Tryd.prog 46 #[.pointer (some ⟨sb, 0, none⟩), .string x, .int .u8 k] w fun e w' => e = .returned (.tuple #[]) ∧ KwsN kb (n + 2) (addH kh x.data.toList k) (addT kt x.data.toList k) w' ∧ w.grownBy w' (some kb) := by
  obtain ⟨D, hown, hv⟩ := hK
  have hkey := keyOf_string_mk (P := Tryd.prog) (k := 9) Tryd.underlying9 hx
  have hwk : (Lit.int .u8 k).wf = true := WalkArith.wf_u8 ⟨by omega, by omega⟩
  have hp1 := kwsN_put hown.isMap hv x.data.toList k
  have HP1 := Lib.hid hp1
  have HO := Lib.hid hown
  clear hv hown hp1
  by_cases h49 : k = 49
  · subst h49
    have hkey2 := keyOf_string_mk (P := Tryd.prog) (k := 9) (s := ⟨#[105, 110]⟩) Tryd.underlying9 (by show 2 ≤ _; unfold maxLen; omega)
    go_enter Tryd.func46, Tryd.ntmps46
    have hm1 : n < maxLen := by unfold maxLen; omega
    have hm2 : n + 1 < maxLen := by unfold maxLen; omega
    have w40 : (Lit.int .u8 40).wf = true := by decide
    go_wp2_with (first
      | (at_mapUpdate; refine wpList_mapUpdate_own _ rfl (.tmp 9) (.tmp 10) (.tmp 11) 51 rfl 9 55 (string_keyed Tryd.underlying9) Tryd.underlying51 _ kb n D rfl HO.out hm1 _ _ _ rfl rfl hkey _ [] (plainElem_int Tryd.underlying55 hwk) ?_; intro w1 hown1 hg1; have HO1 := Lib.hid hown1; have HG1 := Lib.hid hg1; have c0' := hg1.cell c0 (by simpa using hne); clear hown1 hg1)
      | (at_mapUpdate; refine wpList_mapUpdate_own _ rfl (.tmp 17) _ _ 51 rfl 9 55 (string_keyed Tryd.underlying9) Tryd.underlying51 _ kb (n + 1) _ rfl HO1.out hm2 _ _ _ rfl rfl hkey2 _ [] (plainElem_int Tryd.underlying55 w40) ?_; intro w2 hown2 hg2; have HO2 := Lib.hid hown2; have HG2 := Lib.hid hg2; clear hown2 hg2))
    have hp2 := kwsN_put HO1.out.isMap HP1.out wIn 40
    have HP2 := Lib.hid hp2
    clear hp2
    go_end0
    refine ⟨rfl, ⟨_, HO2.out, ?_⟩, grown2 HG1.out HG2.out⟩
    exact HP2.out
  · have hq : (k == 49) = false := by simpa using h49
    have e1 : addH kh x.data.toList k = updH kh x.data.toList := by unfold addH; rw [if_neg h49]
    have e2 : addT kt x.data.toList k = updT kt x.data.toList k := by unfold addT; rw [if_neg h49]
    have E1 := Lib.hid e1
    have E2 := Lib.hid e2
    clear e1 e2 h49
    go_enter Tryd.func46, Tryd.ntmps46
    go_wp2_with (at_mapUpdate; refine wpList_mapUpdate_own _ rfl (.tmp 9) (.tmp 10) (.tmp 11) 51 rfl 9 55 (string_keyed Tryd.underlying9) Tryd.underlying51 _ kb n D rfl HO.out (by unfold maxLen; omega) _ _ _ rfl rfl hkey _ [] (plainElem_int Tryd.underlying55 hwk) ?_; intro w1 hown1 hg1; have HO1 := Lib.hid hown1; have HG1 := Lib.hid hg1; clear hown1 hg1)
    go_end0
    rw [E1.out, E2.out]
    exact ⟨rfl, ⟨_, HO1.out.mono (by omega), HP1.out⟩, HG1.out⟩

end Go.Proofs.YtplljfbbipeakaaDoor
