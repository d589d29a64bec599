/- Scanner.Keyword, Scanner.IsKeyword, walked. -/
import Derived.Test.YtplljfbbipeakaaDoorIdent
import Derived.Maps.OwnSet
import Derived.Test.YtplljfbbipeakaaDoorSm3
namespace Go.Proofs.YtplljfbbipeakaaDoor
open Go Go.RowKit Go.Maps Go.WideMaps Go.WideElems

/-- Block kb is a map from words to kinds: kh tells whether a word is in it, kt its kind. -/
def Kws (kb : Nat) (kh : List UInt8 → Bool) (kt : List UInt8 → Int) (w : World) : Prop :=
  ∃ (n : Nat) (D : DataW Unit), w.ownsMap Tryd.prog 9 (plainElem Tryd.prog 55) kb n D ∧ n ≤ 1099511627776 ∧
    ∀ l, Maps.has D (.string l) = kh l ∧ (kh l = true → D.atKey (.string l) (.lit (.int .u8 0)) = .lit (.int .u8 (kt l)))

theorem zero55 (w : World) : (zeroValue 55).run Tryd.prog w = .ok (.int .u8 0) w := by kernel_rfl

theorem lit_inj {c d : Int} (h : (DataW.lit (.int .u8 c) : DataW Unit) = .lit (.int .u8 d)) : c = d := by
  cases h; rfl

theorem Kws.kept {B kb : Nat} {kh : List UInt8 → Bool} {kt : List UInt8 → Int} {w w' : World} (h : Kws kb kh kt w) (k : Kept B w w') : Kws kb kh kt w' := by
  obtain ⟨n, D, ⟨es, clock, hb, F, hs, hD⟩, hn, hv⟩ := h
  refine ⟨n, D, ⟨es, clock, ?_, F, hs, hD⟩, hn, hv⟩
  rw [k.block kb (lt_of_block hb) (Or.inr fun o ho => by rw [hb] at ho; cases ho; rfl)]
  exact hb

set_option maxHeartbeats 1000000 in
theorem keyword_walk (sb kb : Nat) (kh : List UInt8 → Bool) (kt : List UInt8 → Int) (w : World) (c0 : w.cell? ⟨sb, 0, none⟩ = some (.map (some kb))) (hK : Kws kb kh kt w) (lit : ByteArray) (hl : lit.size ≤ maxLen) :
    Calls Tryd.prog 41 #[.pointer (some ⟨sb, 0, none⟩), .string lit] w fun e w' => e = .returned (.int .u8 (kwTok kh kt lit.data.toList)) ∧ w = w' := by
  obtain ⟨n, D, hown, hn, hD⟩ := hK
  have hkey := keyOf_string_mk (P := Tryd.prog) (k := 9) Tryd.underlying9 hl
  have h1 := (hD lit.data.toList).1
  have h2 := (hD lit.data.toList).2
  have HO := Lib.hid hown
  cases hb : kh lit.data.toList with
  | true =>
    have ht : Hid (kwTok kh kt lit.data.toList = kt lit.data.toList) := by unfold kwTok; rw [if_pos hb]; rfl
    have H2 := Lib.hid (h2 hb)
    rw [hb] at h1
    have H1 := Lib.hid h1
    clear h1 h2 hb hD hown
    go_enter Tryd.func41, Tryd.ntmps41
    go_wp2_with (at_lookup; refine wpList_lookup_own_ok_int _ rfl _ _ 51 rfl 9 55 .u8 (string_keyed Tryd.underlying9) Tryd.underlying51 Tryd.underlying55 (zero55 _) kb n D rfl HO.out _ _ rfl hkey ?_; intro c hat hwc; rw [H1.out]; have HA := Lib.hid hat; clear hat)
    go_ret
    refine ⟨?_, rfl⟩
    rw [ht.out]
    exact ret_int (lit_inj ((‹Hid (DataW.atKey D _ _ = _)›).out.symm.trans H2.out))
  | false =>
    have ht : Hid (kwTok kh kt lit.data.toList = 3) := by unfold kwTok; rw [if_neg (by rw [hb]; decide)]; rfl
    rw [hb] at h1
    have H1 := Lib.hid h1
    clear h1 h2 hb hD hown
    go_enter Tryd.func41, Tryd.ntmps41
    go_wp2_with (at_lookup; refine wpList_lookup_own_ok_int _ rfl _ _ 51 rfl 9 55 .u8 (string_keyed Tryd.underlying9) Tryd.underlying51 Tryd.underlying55 (zero55 _) kb n D rfl HO.out _ _ rfl hkey ?_; intro c hat hwc; rw [H1.out]; have HA := Lib.hid hat; clear hat)
    go_ret
    refine ⟨?_, rfl⟩
    rw [ht.out]
    rfl

set_option maxHeartbeats 1000000 in
theorem isKeyword_walk (sb kb : Nat) (kh : List UInt8 → Bool) (kt : List UInt8 → Int) (w : World) (c0 : w.cell? ⟨sb, 0, none⟩ = some (.map (some kb))) (hK : Kws kb kh kt w) (lit : ByteArray) (hl : lit.size ≤ maxLen) :
    Calls Tryd.prog 42 #[.pointer (some ⟨sb, 0, none⟩), .string lit] w fun e w' => e = .returned (.bool (kh lit.data.toList)) ∧ w = w' := by
  obtain ⟨n, D, hown, hn, hD⟩ := hK
  have hkey := keyOf_string_mk (P := Tryd.prog) (k := 9) Tryd.underlying9 hl
  have H1 := Lib.hid (hD lit.data.toList).1
  have HO := Lib.hid hown
  clear hD hown
  go_enter Tryd.func42, Tryd.ntmps42
  go_wp2_with (at_lookup; refine wpList_lookup_own_ok_int _ rfl _ _ 51 rfl 9 55 .u8 (string_keyed Tryd.underlying9) Tryd.underlying51 Tryd.underlying55 (zero55 _) kb n D rfl HO.out _ _ rfl hkey ?_; intro c hat hwc; rw [H1.out]; have HA := Lib.hid hat; clear hat)
  go_ret
  exact ⟨rfl, rfl⟩

end Go.Proofs.YtplljfbbipeakaaDoor
