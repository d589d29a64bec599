/- impl.keyword, Scanner.AddKeyword, walked; the keywords that a list of words adds. -/
import Derived.Test.YtplljfbbipeakaaDoorNew
import Derived.Deep.LoopGhost
import Derived.Maps.OwnSet
namespace Go.Proofs.YtplljfbbipeakaaDoor
open Go Go.RowKit Go.Maps Go.WideMaps Go.WideElems

def wIn : List UInt8 := [105, 110]
def wEvery : List UInt8 := [101, 118, 101, 114, 121]
def wContains : List UInt8 := [99, 111, 110, 116, 97, 105, 110, 115]
def wIf : List UInt8 := [105, 102]

/-- impl.keyword. -/
def kwOf (l : List UInt8) : Option Int := if l = wIn then some 40 else if l = wEvery then some 49 else if l = wContains then some 50 else if l = wIf then some 51 else none

def kwRet (o : Option Int) : Value := match o with
  | some k => .tuple #[.int .u8 k, .bool true]
  | none => .tuple #[.int .u8 0, .bool false]

theorem tl_ne {s : ByteArray} {l : List UInt8} (h : s.data.toList ≠ l) : (s.toList == l) = false := by
  rw [ByteArray.toList_eq]; simpa using h
theorem ba_eq {s : ByteArray} {l : List UInt8} (h : s.data.toList = l) : s = ⟨l.toArray⟩ := by
  rw [← h]

set_option maxHeartbeats 1000000 in
theorem implKeyword_walk (s : ByteArray) (w : World) :
    Calls Tryd.prog 45 #[.string s] w fun e w' => e = .returned (kwRet (kwOf s.data.toList)) ∧ w = w' := by
  by_cases h1 : s.data.toList = wIn
  · obtain rfl := ba_eq h1
    clear h1
    go_enter Tryd.func45, Tryd.ntmps45
    go_wp2
    go_ret2
    exact ⟨rfl, rfl⟩
  · by_cases h2 : s.data.toList = wEvery
    · obtain rfl := ba_eq h2
      clear h1 h2
      go_enter Tryd.func45, Tryd.ntmps45
      go_wp2
      go_ret2
      exact ⟨rfl, rfl⟩
    · by_cases h3 : s.data.toList = wContains
      · obtain rfl := ba_eq h3
        clear h1 h2 h3
        go_enter Tryd.func45, Tryd.ntmps45
        go_wp2
        go_ret2
        exact ⟨rfl, rfl⟩
      · by_cases h4 : s.data.toList = wIf
        · obtain rfl := ba_eq h4
          clear h1 h2 h3 h4
          go_enter Tryd.func45, Tryd.ntmps45
          go_wp2
          go_ret2
          exact ⟨rfl, rfl⟩
        · have hk : kwOf s.data.toList = none := by unfold kwOf; rw [if_neg h1, if_neg h2, if_neg h3, if_neg h4]
          have HK := Lib.hid hk
          have t1 : (s.toList == [105, 110]) = false := tl_ne h1
          have t2 : (s.toList == [101, 118, 101, 114, 121]) = false := tl_ne h2
          have t3 : (s.toList == [99, 111, 110, 116, 97, 105, 110, 115]) = false := tl_ne h3
          have t4 : (s.toList == [105, 102]) = false := tl_ne h4
          clear h1 h2 h3 h4 hk
          go_enter Tryd.func45, Tryd.ntmps45
          go_wp2
          go_ret2
          rw [HK.out]
          exact ⟨rfl, rfl⟩

theorem implKeyword_none {s : ByteArray} {w : World} (h : kwOf s.data.toList = none) :
    Calls Tryd.prog 45 #[.string s] w fun e w' => e = .returned (.tuple #[.int .u8 0, .bool false]) ∧ w = w' := by
  have := implKeyword_walk s w
  rw [h] at this
  exact this
theorem implKeyword_some {s : ByteArray} {w : World} {k : Int} (h : kwOf s.data.toList = some k) :
    Calls Tryd.prog 45 #[.string s] w fun e w' => e = .returned (.tuple #[.int .u8 k, .bool true]) ∧ w = w' := by
  have := implKeyword_walk s w
  rw [h] at this
  exact this

def updH (kh : List UInt8 → Bool) (x : List UInt8) : List UInt8 → Bool := fun l => decide (l = x) || kh l
def updT (kt : List UInt8 → Int) (x : List UInt8) (k : Int) : List UInt8 → Int := fun l => if l = x then k else kt l

theorem kwsN_put {kh : List UInt8 → Bool} {kt : List UInt8 → Int} {D : DataW Unit} (hm : IsMap D) (hv : ∀ l, Maps.has D (.string l) = kh l ∧ (kh l = true → D.atKey (.string l) (.lit (.int .u8 0)) = .lit (.int .u8 (kt l)))) (x : List UInt8) (k : Int) :
    ∀ l, Maps.has (D.put (.string x) (.lit (.int .u8 k))) (.string l) = updH kh x l ∧ (updH kh x l = true → (D.put (.string x) (.lit (.int .u8 k))).atKey (.string l) (.lit (.int .u8 0)) = .lit (.int .u8 (updT kt x k l))) := by
  intro l
  by_cases h : l = x
  · subst h
    refine ⟨?_, fun _ => ?_⟩
    · rw [has_put_same hm (show WideAt.IsKeyLit (.string l) from trivial)]; simp [updH]
    · rw [atKey_put_same hm (show WideAt.IsKeyLit (.string l) from trivial)]; simp [updT]
  · have hne : (Lit.string l) ≠ .string x := fun e => h (by cases e; rfl)
    refine ⟨?_, fun hh => ?_⟩
    · rw [has_put_other hne, (hv l).1]; simp [updH, h]
    · rw [atKey_put_other hne]
      have : kh l = true := by simpa [updH, h] using hh
      rw [(hv l).2 this]; simp [updT, h]

/-- What AddKeyword adds. -/
def addH (kh : List UInt8 → Bool) (x : List UInt8) (k : Int) : List UInt8 → Bool := if k = 49 then updH (updH kh x) wIn else updH kh x
def addT (kt : List UInt8 → Int) (x : List UInt8) (k : Int) : List UInt8 → Int := if k = 49 then updT (updT kt x k) wIn 40 else updT kt x k

theorem grown2 {w w1 w2 : World} {r : Option Nat} (h : w.grownBy w1 r) (g : w1.grownBy w2 r) : w.grownBy w2 r :=
  ⟨g.os.trans h.os, g.tape.trans h.tape, g.output.trans h.output, Nat.le_trans h.size g.size, fun i hi hr => (g.block i (Nat.lt_of_lt_of_le hi h.size) hr).trans (h.block i hi hr)⟩

set_option maxHeartbeats 1000000 in
theorem addKeyword_walk (sb kb n : Nat) (kh : List UInt8 → Bool) (kt : List UInt8 → Int) (x : ByteArray) (k : Int) (w : World) (c0 : w.cell? ⟨sb, 0, none⟩ = some (.map (some kb))) (hne : sb ≠ kb) (hx : x.size ≤ maxLen) (hk : 0 ≤ k ∧ k ≤ 255)
    (hK : KwsN kb n kh kt w) (hn : n ≤ 1099511627776) :
    Calls Tryd.prog 46 #[.pointer (some ⟨sb, 0, none⟩), .string x, .int .u8 k] w fun e w' => e = .returned (.tuple #[]) ∧ KwsN kb (n + 2) (addH kh x.data.toList k) (addT kt x.data.toList k) w' ∧ w.grownBy w' (some kb) := by
  obtain ⟨D, hown, hv⟩ := hK
  have hkey := keyOf_string_mk (P := Tryd.prog) (k := 9) Tryd.underlying9 hx
  have hwk : (Lit.int .u8 k).wf = true := WalkArith.wf_u8 ⟨by omega, by omega⟩
  have hp1 := kwsN_put hown.isMap hv x.data.toList k
  have HP1 := Lib.hid hp1
  have HO := Lib.hid hown
  clear hv hown hp1
  by_cases h49 : k = 49
  · subst h49
    have hkey2 := keyOf_string_mk (P := Tryd.prog) (k := 9) (s := ⟨#[105, 110]⟩) Tryd.underlying9 (by show 2 ≤ _; unfold maxLen; omega)
    go_enter Tryd.func46, Tryd.ntmps46
    have hm1 : n < maxLen := by unfold maxLen; omega
    have hm2 : n + 1 < maxLen := by unfold maxLen; omega
    have w40 : (Lit.int .u8 40).wf = true := by decide
    go_wp2_with (first
      | (at_mapUpdate; refine wpList_mapUpdate_own _ rfl (.tmp 9) (.tmp 10) (.tmp 11) 51 rfl 9 55 (string_keyed Tryd.underlying9) Tryd.underlying51 _ kb n D rfl HO.out hm1 _ _ _ rfl rfl hkey _ [] (plainElem_int Tryd.underlying55 hwk) ?_; intro w1 hown1 hg1; have HO1 := Lib.hid hown1; have HG1 := Lib.hid hg1; have c0' := hg1.cell c0 (by simpa using hne); clear hown1 hg1)
      | (at_mapUpdate; refine wpList_mapUpdate_own _ rfl (.tmp 17) _ _ 51 rfl 9 55 (string_keyed Tryd.underlying9) Tryd.underlying51 _ kb (n + 1) _ rfl HO1.out hm2 _ _ _ rfl rfl hkey2 _ [] (plainElem_int Tryd.underlying55 w40) ?_; intro w2 hown2 hg2; have HO2 := Lib.hid hown2; have HG2 := Lib.hid hg2; clear hown2 hg2))
    have hp2 := kwsN_put HO1.out.isMap HP1.out wIn 40
    have HP2 := Lib.hid hp2
    clear hp2
    go_end0
    refine ⟨rfl, ⟨_, HO2.out, ?_⟩, grown2 HG1.out HG2.out⟩
    exact HP2.out
  · have hq : (k == 49) = false := by simpa using h49
    have e1 : addH kh x.data.toList k = updH kh x.data.toList := by unfold addH; rw [if_neg h49]
    have e2 : addT kt x.data.toList k = updT kt x.data.toList k := by unfold addT; rw [if_neg h49]
    have E1 := Lib.hid e1
    have E2 := Lib.hid e2
    clear e1 e2 h49
    go_enter Tryd.func46, Tryd.ntmps46
    go_wp2_with (at_mapUpdate; refine wpList_mapUpdate_own _ rfl (.tmp 9) (.tmp 10) (.tmp 11) 51 rfl 9 55 (string_keyed Tryd.underlying9) Tryd.underlying51 _ kb n D rfl HO.out (by unfold maxLen; omega) _ _ _ rfl rfl hkey _ [] (plainElem_int Tryd.underlying55 hwk) ?_; intro w1 hown1 hg1; have HO1 := Lib.hid hown1; have HG1 := Lib.hid hg1; clear hown1 hg1)
    go_end0
    rw [E1.out, E2.out]
    exact ⟨rfl, ⟨_, HO1.out.mono (by omega), HP1.out⟩, HG1.out⟩

end Go.Proofs.YtplljfbbipeakaaDoor
