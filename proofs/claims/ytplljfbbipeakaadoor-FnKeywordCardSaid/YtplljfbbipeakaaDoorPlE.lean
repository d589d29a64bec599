/- The tokens of a text of segments, from the scanner's first state to its end. No program in sight. -/
import Derived.Test.YtplljfbbipeakaaDoorPlC
namespace Go.Proofs.YtplljfbbipeakaaDoor
open Go

/-- What a new scanner begins with. -/
def sNew (bs : ByteArray) : SS := if (nextS bs s00).curr = 65279 then nextS bs (nextS bs s00) else nextS bs s00

theorem sNew_rs {bs : ByteArray} {R : List Nat} (h : Txt bs R) : sNew bs = rs R 0 := by
  unfold sNew
  rw [first_rs h, if_neg]
  show ¬ curOf R[0]? = 65279
  cases hr : R[0]? with
  | none => show ¬ ((-1 : Int) = 65279); decide
  | some r =>
    have hm : r ∈ R := List.mem_of_getElem? hr
    have := (h.ok r hm).2.2
    show ¬ ((r : Int) = 65279)
    omega

/-- The kinds of the keywords: none is that of the end, of white space. -/
def KtOk (kt : List UInt8 → Int) : Prop := ∀ l, 3 ≤ kt l ∧ kt l ≤ 255

theorem kwTok_range {kh : List UInt8 → Bool} {kt : List UInt8 → Int} (h : KtOk kt) (l : List UInt8) : 3 ≤ kwTok kh kt l ∧ kwTok kh kt l ≤ 255 := by
  unfold kwTok
  split
  · exact h l
  · decide

theorem sign_range : (∀ p ∈ signs1, 3 ≤ p.2 ∧ p.2 ≤ 255) ∧ (∀ p ∈ signs1e, 3 ≤ p.2 ∧ p.2 ≤ 255) ∧ (∀ p ∈ signs2, 3 ≤ p.2 ∧ p.2 ≤ 255) := by decide

theorem segOk_range {kh : List UInt8 → Bool} {kt : List UInt8 → Int} (hk : KtOk kt) {l post : List Nat} {k : Int} {lit : ByteArray} (h : SegOk kh kt l k lit post) : 2 ≤ k ∧ k ≤ 255 := by
  cases h with
  | ws => decide
  | id => have := kwTok_range (kh := kh) hk (encL l); omega
  | num => decide
  | str => decide
  | raw => decide
  | comm => decide
  | s1 c k _ h => have := sign_range.1 _ h; simp only at this; omega
  | s1e c k _ h => have := sign_range.2.1 _ h; simp only at this; omega
  | s2 c k _ h => have := sign_range.2.2 _ h; simp only at this; omega

theorem segOk_body {kh : List UInt8 → Bool} {kt : List UInt8 → Int} {l post : List Nat} {k : Int} {lit : ByteArray} (h : SegOk kh kt l k lit post) : 1 ≤ l.length := by
  cases h with
  | id _ _ h => exact List.length_pos_iff.2 h
  | num _ _ h => exact List.length_pos_iff.2 h.head.1
  | ws => simp
  | str => simp
  | raw => simp
  | comm => simp
  | s1 => simp
  | s1e => simp
  | s2 => simp

/-- A list of segments that is a text's. -/
def Segs (kh : List UInt8 → Bool) (kt : List UInt8 → Int) : List Seg → Prop
  | [] => True
  | g :: gs => SegOk kh kt g.body g.tk g.lit (segsR gs) ∧ Segs kh kt gs

theorem Segs.ok {kh : List UInt8 → Bool} {kt : List UInt8 → Int} (hk : KtOk kt) : ∀ {gs : List Seg}, Segs kh kt gs → SegsOk kh kt gs
  | [], _ => trivial
  | _ :: _, ⟨h1, h2⟩ => ⟨h1, by have := segOk_range hk h1; omega, Segs.ok hk h2⟩
theorem Segs.range {kh : List UInt8 → Bool} {kt : List UInt8 → Int} (hk : KtOk kt) : ∀ {gs : List Seg}, Segs kh kt gs → ∀ g ∈ gs, 2 ≤ g.tk ∧ g.tk ≤ 255
  | g :: gs, ⟨h1, h2⟩, x, hx => by
    rcases List.mem_cons.1 hx with rfl | hx
    · exact segOk_range hk h1
    · exact Segs.range hk h2 x hx
theorem Segs.length {kh : List UInt8 → Bool} {kt : List UInt8 → Int} : ∀ {gs : List Seg}, Segs kh kt gs → gs.length ≤ (segsR gs).length
  | [], _ => Nat.zero_le _
  | g :: gs, ⟨h1, h2⟩ => by
    have := Segs.length h2
    have := segOk_body h1
    rw [segsR_cons, List.length_append, List.length_cons]; omega

theorem encL_ge : ∀ {l : List Nat}, (∀ r ∈ l, okR r) → l.length ≤ (encL l).length
  | [], _ => Nat.zero_le _
  | r :: l, h => by
    have := encL_ge (fun x hx => h x (.tail _ hx))
    have := (encR_len (h r (.head _))).1
    rw [encL_cons, List.length_append, List.length_cons]; omega

def endT (R : List Nat) : TI := ⟨1, ⟨#[]⟩, rs R R.length, rs R R.length⟩

/-- What the scanner's tokens are. -/
theorem run_chain {kh : List UInt8 → Bool} {kt : List UInt8 → Int} {bs : ByteArray} {gs : List Seg} (hk : KtOk kt) (h : Txt bs (segsR gs)) (hG : Segs kh kt gs) :
    Chain kh kt bs (sNew bs) (toks (segsR gs) 0 gs) (endT (segsR gs)).s ∧ Tok kh kt bs (endT (segsR gs)).s (endT (segsR gs)).s' 1 ⟨#[]⟩ ∧ (toks (segsR gs) 0 gs).length ≤ bs.size := by
  refine ⟨?_, tok_eof h, ?_⟩
  · rw [sNew_rs h]
    exact chain_segs h gs [] rfl (hG.ok hk)
  · rw [toks_length, h.size]
    exact Nat.le_trans hG.length (encL_ge (fun r hr => (h.ok r hr).1))

theorem toks_mem {R : List Nat} : ∀ {gs : List Seg} {i : Nat} {t : TI}, t ∈ toks R i gs → ∃ g ∈ gs, t.tk = g.tk ∧ t.s'.errs = 0
  | g :: gs, i, t, h => by
    rcases List.mem_cons.1 h with rfl | h
    · exact ⟨g, .head _, rfl, rfl⟩
    · obtain ⟨x, hx, h1⟩ := toks_mem h
      exact ⟨x, .tail _ hx, h1⟩

end Go.Proofs.YtplljfbbipeakaaDoor
