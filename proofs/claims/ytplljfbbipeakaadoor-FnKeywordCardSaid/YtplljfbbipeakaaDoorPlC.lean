/- A text of segments (white space, tokens), and the chain of tokens that is scanned out of it. No program in sight. -/
import Derived.Test.YtplljfbbipeakaaDoorPlB
namespace Go.Proofs.YtplljfbbipeakaaDoor
open Go

/-- One token that was scanned: its kind, its text, the states before and behind it. -/
structure TI where
  tk : Int
  lit : ByteArray
  s : SS
  s' : SS

/-- Tokens one behind the other, none of them the end's. -/
def Chain (kh : List UInt8 → Bool) (kt : List UInt8 → Int) (bs : ByteArray) : SS → List TI → SS → Prop
  | s, [], e => s = e
  | s, t :: ts, e => t.s = s ∧ Tok kh kt bs t.s t.s' t.tk t.lit ∧ t.tk ≠ 1 ∧ Chain kh kt bs t.s'.clr ts e

/-- A segment of a text: its runes, its kind, its text as a token; what it needs of what stands behind it. -/
inductive SegOk (kh : List UInt8 → Bool) (kt : List UInt8 → Int) : List Nat → Int → ByteArray → List Nat → Prop
  | ws (c : Nat) (post : List Nat) : (c = 32 ∨ c = 9 ∨ c = 10 ∨ c = 13) → SegOk kh kt [c] 2 (BA [c]) post
  | id (l post : List Nat) : l ≠ [] → (∀ r, l.head? = some r → isLetB (r : Int) = true) → (∀ r ∈ l, isIdB (r : Int) = true) → stopB post → SegOk kh kt l (kwTok kh kt (encL l)) (BA l) post
  | num (l post : List Nat) : NumC l → stopB post → SegOk kh kt l 16 (BA l) post
  | str (x post : List Nat) : StrC x → stopB post → SegOk kh kt (34 :: (x ++ [34])) 17 (BA (34 :: (x ++ [34]))) post
  | raw (x post : List Nat) : (∀ r ∈ x, r ≠ 96) → stopB post → SegOk kh kt (96 :: (x ++ [96])) 17 (BA (96 :: (x ++ [96]))) post
  | comm (x t : List Nat) : (∀ r ∈ x, r ≠ 10 ∧ r ≠ 13) → SegOk kh kt (35 :: x) 4 (BA (35 :: x)) (10 :: t)
  | s1 (c : Nat) (k : Int) (post : List Nat) : ((c : Int), k) ∈ signs1 → SegOk kh kt [c] k ⟨#[]⟩ post
  | s1e (c : Nat) (k : Int) (post : List Nat) : ((c : Int), k) ∈ signs1e → stopB post → SegOk kh kt [c] k ⟨#[]⟩ post
  | s2 (c : Nat) (k : Int) (post : List Nat) : ((c : Int), k) ∈ signs2 → SegOk kh kt [c, 61] k ⟨#[]⟩ post

theorem seg_tok {kh : List UInt8 → Bool} {kt : List UInt8 → Int} {bs : ByteArray} {pre l post : List Nat} {k : Int} {lit : ByteArray} (h : Txt bs (pre ++ (l ++ post))) (hs : SegOk kh kt l k lit post) :
    Tok kh kt bs (rs (pre ++ (l ++ post)) pre.length) (rs (pre ++ (l ++ post)) (pre.length + l.length)) k lit := by
  cases hs with
  | ws c _ h1 => exact tok_ws h h1
  | id _ _ h1 h2 h3 h4 => exact tok_id h h1 h2 h3 h4
  | num _ _ h1 h2 => exact tok_num h h1 h2
  | str x _ h1 h2 => exact tok_str h h1 h2
  | raw x _ h1 h2 => exact tok_raw h h1 h2
  | comm x t h1 => exact tok_comm h h1
  | s1 c k _ h1 => exact tok_s1 h h1
  | s1e c k _ h1 h2 => exact tok_s1e h h1 h2
  | s2 c k _ h1 => exact tok_s2 h h1

structure Seg where
  body : List Nat
  tk : Int
  lit : ByteArray

def segsR (gs : List Seg) : List Nat := gs.flatMap Seg.body
theorem segsR_cons (g : Seg) (gs : List Seg) : segsR (g :: gs) = g.body ++ segsR gs := List.flatMap_cons
theorem segsR_append (a b : List Seg) : segsR (a ++ b) = segsR a ++ segsR b := List.flatMap_append

def SegsOk (kh : List UInt8 → Bool) (kt : List UInt8 → Int) : List Seg → Prop
  | [] => True
  | g :: gs => SegOk kh kt g.body g.tk g.lit (segsR gs) ∧ g.tk ≠ 1 ∧ SegsOk kh kt gs

/-- The tokens of the segments from rune number i on. -/
def toks (R : List Nat) : Nat → List Seg → List TI
  | _, [] => []
  | i, g :: gs => ⟨g.tk, g.lit, rs R i, rs R (i + g.body.length)⟩ :: toks R (i + g.body.length) gs

theorem toks_length (R : List Nat) : ∀ (gs : List Seg) (i : Nat), (toks R i gs).length = gs.length
  | [], _ => rfl
  | g :: gs, i => by simp [toks, toks_length R gs]

theorem chain_segs {kh : List UInt8 → Bool} {kt : List UInt8 → Int} {bs : ByteArray} {R : List Nat} (h : Txt bs R) : ∀ (gs : List Seg) (pre : List Nat), R = pre ++ segsR gs → SegsOk kh kt gs →
    Chain kh kt bs (rs R pre.length) (toks R pre.length gs) (rs R R.length)
  | [], pre, e, _ => by
    have : R = pre := by rw [e]; simp [segsR]
    rw [this]; rfl
  | g :: gs, pre, e, ⟨h1, h2, h3⟩ => by
    have ih := chain_segs h gs (pre ++ g.body) (by rw [e, segsR_cons, List.append_assoc]) h3
    rw [List.length_append] at ih
    rw [segsR_cons] at e
    refine ⟨rfl, ?_, h2, ?_⟩
    · subst e; exact seg_tok h h1
    · show Chain kh kt bs (rs R (pre.length + g.body.length)).clr _ _
      rw [rs_clr]; exact ih

/-! what a token's record says -/
def TI.start (t : TI) : Int := (t.s.off : Int) - (t.s.width : Int)
def TI.stop (t : TI) : Int := (t.s'.off : Int) - (t.s'.width : Int)

/-- The text's last rune is of one byte. -/
def lastA (R : List Nat) : Prop := ∀ r, R.getLast? = some r → r < 128

theorem rs_place {R : List Nat} (hl : lastA R) (hne : R ≠ []) (j : Nat) : ((rs R j).off : Int) - ((rs R j).width : Int) = (posR R j : Int) := by
  by_cases hj : j < R.length
  · rw [rs_off hj, rs_width hj]; omega
  · rw [rs_off_end (by omega), posR_all (by omega)]
    have hw : (rs R j).width = 1 := by
      show lastW (R.take (j + 1)) = 1
      rw [List.take_of_length_le (by omega)]
      unfold lastW
      cases hg : R.getLast? with
      | none => exact absurd (List.getLast?_eq_none_iff.1 hg) hne
      | some r => exact congrArg List.length (encR1 (hl r hg))
    rw [hw]; omega

end Go.Proofs.YtplljfbbipeakaaDoor
