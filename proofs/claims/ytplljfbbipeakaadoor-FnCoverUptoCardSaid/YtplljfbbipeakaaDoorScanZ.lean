/- Scanner.Scan, at whatever token. -/
import Derived.Test.YtplljfbbipeakaaDoorScanW
import Derived.Test.YtplljfbbipeakaaDoorScanN
import Derived.Test.YtplljfbbipeakaaDoorScanC
import Derived.Test.YtplljfbbipeakaaDoorScanS
import Derived.Test.YtplljfbbipeakaaDoorScanT
import Derived.Test.YtplljfbbipeakaaDoorScanE
import Derived.Test.YtplljfbbipeakaaDoorScanF
namespace Go.Proofs.YtplljfbbipeakaaDoor
open Go Go.RowKit

theorem scan_any {B sb kb bb : Nat} {bs : ByteArray} {s s' : SS} {tk : Int} {lit : ByteArray} {kh : List UInt8 → Bool} {kt : List UInt8 → Int} {w : World} (h : Scn B sb kb bb bs s w) (hKw : Kws kb kh kt w) (hT : Tok kh kt bs s s' tk lit) :
    Calls Tryd.prog 47 #[.pointer (some ⟨sb, 0, none⟩), .slice none 0 0] w (ScanPost B sb kb bb bs s s' tk lit w) := by
  rcases hT with h1 | h1 | h1 | h1 | h1 | h1 | h1 | h1 | h1 | h1
  · exact scan_W h hKw (Or.inl h1)
  · exact scan_W h hKw (Or.inr h1)
  · exact scan_N h hKw (Or.inl h1)
  · exact scan_N h hKw (Or.inr h1)
  · exact scan_C h hKw (Or.inl h1)
  · exact scan_C h hKw (Or.inr (Or.inl h1))
  · exact scan_C h hKw (Or.inr (Or.inr h1))
  · obtain ⟨hm, h2⟩ := h1
    rw [show signs1 = signs1.take 8 ++ signs1.drop 8 from (List.take_append_drop 8 signs1).symm] at hm
    rcases List.mem_append.1 hm with hm | hm
    · exact scan_S h hKw ⟨hm, h2⟩
    · exact scan_T h hKw ⟨hm, h2⟩
  · exact scan_E h hKw h1
  · exact scan_F h hKw h1

end Go.Proofs.YtplljfbbipeakaaDoor
