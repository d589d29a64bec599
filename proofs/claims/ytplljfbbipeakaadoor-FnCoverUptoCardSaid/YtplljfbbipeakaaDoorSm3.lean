/- One token, as a relation on the scanner's state. No program in sight. -/
import Derived.Test.YtplljfbbipeakaaDoorSm2
namespace Go.Proofs.YtplljfbbipeakaaDoor
open Go

/-- What Keyword returns. -/
def kwTok (kh : List UInt8 → Bool) (kt : List UInt8 → Int) (l : List UInt8) : Int := if kh l = true then kt l else 3

/-- A number's digits: n of them from step m on, and no digit behind. -/
def Digits (bs : ByteArray) (s : SS) (m n : Nat) : Prop :=
  (∀ j, j < n → isDecB (iterS bs (m + j) s).curr = true) ∧ isDecB (iterS bs (m + n) s).curr = false ∧ 1 ≤ n

/-- scanNumber in its four shapes. -/
def NumTo (bs : ByteArray) (s s' : SS) : Prop :=
  (∃ n1, Digits bs s 0 n1 ∧ (iterS bs n1 s).curr ≠ 46 ∧ ((iterS bs n1 s).curr ≠ 69 ∧ (iterS bs n1 s).curr ≠ 101) ∧ s' = iterS bs n1 s) ∨
  (∃ n1 n2, Digits bs s 0 n1 ∧ (iterS bs n1 s).curr = 46 ∧ Digits bs s (n1 + 1) n2 ∧ ((iterS bs (n1 + 1 + n2) s).curr ≠ 69 ∧ (iterS bs (n1 + 1 + n2) s).curr ≠ 101) ∧ s' = iterS bs (n1 + 1 + n2) s) ∨
  (∃ n1 n3, Digits bs s 0 n1 ∧ (iterS bs n1 s).curr ≠ 46 ∧ ((iterS bs n1 s).curr = 69 ∨ (iterS bs n1 s).curr = 101) ∧ ((iterS bs (n1 + 1) s).curr = 43 ∨ (iterS bs (n1 + 1) s).curr = 45) ∧ Digits bs s (n1 + 2) n3 ∧ s' = iterS bs (n1 + 2 + n3) s) ∨
  (∃ n1 n2 n3, Digits bs s 0 n1 ∧ (iterS bs n1 s).curr = 46 ∧ Digits bs s (n1 + 1) n2 ∧ ((iterS bs (n1 + 1 + n2) s).curr = 69 ∨ (iterS bs (n1 + 1 + n2) s).curr = 101) ∧ ((iterS bs ((n1 + 1 + n2) + 1) s).curr = 43 ∨ (iterS bs ((n1 + 1 + n2) + 1) s).curr = 45) ∧ Digits bs s ((n1 + 1 + n2) + 2) n3 ∧ s' = iterS bs ((n1 + 1 + n2) + 2 + n3) s)

/-- The signs of one character, with their kinds; those of them that a '=' behind would turn. -/
def signs1 : List (Int × Int) := [(91, 22), (93, 23), (123, 24), (125, 25), (40, 26), (41, 27), (44, 28), (43, 30), (45, 31), (42, 32), (47, 33), (37, 34), (38, 35), (124, 36), (59, 47), (46, 46)]
def signs1e : List (Int × Int) := [(58, 29), (61, 37), (62, 42), (60, 43)]
def signs2 : List (Int × Int) := [(58, 39), (61, 38), (62, 44), (60, 45), (33, 41)]

/-! ONE TOKEN: from state s to s', of kind tk, with the text lit: its ten shapes -/
section
variable (kh : List UInt8 → Bool) (kt : List UInt8 → Int) (bs : ByteArray) (s s' : SS) (tk : Int) (lit : ByteArray)
def TokWs : Prop := isWsB s.curr = true ∧ tk = 2 ∧ lit = ⟨#[UInt8.ofNat s.curr.toNat]⟩ ∧ s' = nextS bs s
def TokId : Prop := isLetB s.curr = true ∧ 1 ≤ s.off ∧ s.off < s'.off ∧ lit = bs.extract (s.off - 1) (s'.off - 1) ∧ tk = kwTok kh kt lit.data.toList ∧
    ∃ n, (∀ j, j < n → isIdB (iterS bs j s).curr = true) ∧ isIdB (iterS bs n s).curr = false ∧ (iterS bs n s).curr < 128 ∧ s' = iterS bs n s
def TokNum : Prop := isDecB s.curr = true ∧ 1 ≤ s.off ∧ s.off < s'.off ∧ lit = bs.extract (s.off - 1) (s'.off - 1) ∧ tk = 16 ∧ NumTo bs s s' ∧ isLetB s'.curr = false
def TokEof : Prop := s.curr = -1 ∧ tk = 1 ∧ lit = ⟨#[]⟩ ∧ s' = nextS bs s
def TokComm : Prop := s.curr = 35 ∧ tk = 4 ∧ (nextS bs s).width + 1 ≤ (nextS bs s).off ∧ 2 ≤ (nextS bs s).off ∧ lit = bs.extract ((nextS bs s).off - ((nextS bs s).width + 1)) (s'.off - 1) ∧
    ∃ n, (∀ j, j < n → (iterS bs j (nextS bs s)).curr ≠ 10 ∧ (iterS bs j (nextS bs s)).curr ≠ -1) ∧ ((iterS bs n (nextS bs s)).curr = 10 ∨ (iterS bs n (nextS bs s)).curr = -1) ∧
      (bs.get! ((iterS bs n (nextS bs s)).off - 2)).toNat ≠ 13 ∧ (nextS bs s).off - ((nextS bs s).width + 1) < (iterS bs n (nextS bs s)).off - 1 ∧ s' = iterS bs n (nextS bs s)
def TokStr : Prop := s.curr = 34 ∧ tk = 17 ∧ (nextS bs s).width + 1 ≤ (nextS bs s).off ∧ 1 ≤ (nextS bs s).width ∧ lit = bs.extract ((nextS bs s).off - ((nextS bs s).width + 1)) (s'.off - 1) ∧ ∃ n, StrTo bs n (nextS bs s) s'
def TokRaw : Prop := s.curr = 96 ∧ tk = 17 ∧ (nextS bs s).width + 1 ≤ (nextS bs s).off ∧ 1 ≤ (nextS bs s).width ∧ lit = bs.extract ((nextS bs s).off - ((nextS bs s).width + 1)) (s'.off - 1) ∧ ∃ n, RawTo bs n (nextS bs s) s'
def TokS1 : Prop := (s.curr, tk) ∈ signs1 ∧ lit = ⟨#[]⟩ ∧ s' = nextS bs s
def TokS1e : Prop := (s.curr, tk) ∈ signs1e ∧ (nextS bs s).curr ≠ 61 ∧ lit = ⟨#[]⟩ ∧ s' = nextS bs s
def TokS2 : Prop := (s.curr, tk) ∈ signs2 ∧ (nextS bs s).curr = 61 ∧ lit = ⟨#[]⟩ ∧ s' = iterS bs 2 s

def Tok : Prop :=
  TokWs bs s s' tk lit ∨ TokId kh kt bs s s' tk lit ∨ TokNum bs s s' tk lit ∨ TokEof bs s s' tk lit ∨ TokComm bs s s' tk lit ∨
  TokStr bs s s' tk lit ∨ TokRaw bs s s' tk lit ∨ TokS1 bs s s' tk lit ∨ TokS1e bs s s' tk lit ∨ TokS2 bs s s' tk lit
end

/-- The errors taken away: so Scan leaves the state. -/
def SS.clr (s : SS) : SS := { s with errs := 0 }

end Go.Proofs.YtplljfbbipeakaaDoor
