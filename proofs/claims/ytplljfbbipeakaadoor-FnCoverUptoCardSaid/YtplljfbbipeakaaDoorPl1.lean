/- Texts as lists of runes: their bytes, and the scanner's state at each rune. No program in sight. One token of each class, where it stands in a text of runes. No program in sight. A text of segments (white space, tokens), and the chain of tokens that is scanned out of it. No program in sight. The tokens of a text of segments, from the scanner's first state to its end. No program in sight. The runes of a string; what spec.text and spec.comment make of them. No program in sight. -/
import Derived.Test.YtplljfbbipeakaaDoorSm3
namespace Go.Proofs.YtplljfbbipeakaaDoor
open Go

/-- The bytes of a rune, of a list of runes. -/
def encR (r : Nat) : List UInt8 :=
  if r < 128 then [UInt8.ofNat r]
  else if r < 2048 then [UInt8.ofNat (192 + r / 64), UInt8.ofNat (128 + r % 64)]
  else if r < 65536 then [UInt8.ofNat (224 + r / 4096), UInt8.ofNat (128 + r / 64 % 64), UInt8.ofNat (128 + r % 64)]
  else [UInt8.ofNat (240 + r / 262144), UInt8.ofNat (128 + r / 4096 % 64), UInt8.ofNat (128 + r / 64 % 64), UInt8.ofNat (128 + r % 64)]
def encL (l : List Nat) : List UInt8 := l.flatMap encR
def okR (r : Nat) : Prop := r < 55296 ∨ (57344 ≤ r ∧ r ≤ 1114111)
/-- A rune that the scanner takes without an error. -/
def okG (r : Nat) : Prop := okR r ∧ r ≠ 0 ∧ r ≠ 65279

theorem enc1' (r : Nat) (c1 : r < 128) : (Utf8.encode (r : Int)).data.toList = [UInt8.ofNat r] := by
  have v : Utf8.valid (r : Int) = true := by simp [Utf8.valid]; omega
  simp [Utf8.encode, v, c1]
theorem enc2' (r : Nat) (c1 : ¬ r < 128) (c2 : r < 2048) : (Utf8.encode (r : Int)).data.toList = [UInt8.ofNat (192 + r / 64), UInt8.ofNat (128 + r % 64)] := by
  have v : Utf8.valid (r : Int) = true := by simp [Utf8.valid]; omega
  simp [Utf8.encode, v, c1, c2]
theorem enc3' (r : Nat) (c2 : ¬ r < 2048) (c3 : r < 65536) (hv : r < 55296 ∨ 57344 ≤ r) : (Utf8.encode (r : Int)).data.toList = [UInt8.ofNat (224 + r / 4096), UInt8.ofNat (128 + r / 64 % 64), UInt8.ofNat (128 + r % 64)] := by
  have v : Utf8.valid (r : Int) = true := by simp [Utf8.valid]; omega
  have c1 : ¬ r < 128 := by omega
  simp [Utf8.encode, v, c1, c2, c3]
theorem enc4' (r : Nat) (c3 : ¬ r < 65536) (c4 : r ≤ 1114111) : (Utf8.encode (r : Int)).data.toList = [UInt8.ofNat (240 + r / 262144), UInt8.ofNat (128 + r / 4096 % 64), UInt8.ofNat (128 + r / 64 % 64), UInt8.ofNat (128 + r % 64)] := by
  have v : Utf8.valid (r : Int) = true := by simp [Utf8.valid]; omega
  have c1 : ¬ r < 128 := by omega
  have c2 : ¬ r < 2048 := by omega
  simp [Utf8.encode, v, c1, c2, c3]
theorem encR1 {r : Nat} (c1 : r < 128) : encR r = [UInt8.ofNat r] := by unfold encR; rw [if_pos c1]
theorem encR2 {r : Nat} (c1 : ¬ r < 128) (c2 : r < 2048) : encR r = [UInt8.ofNat (192 + r / 64), UInt8.ofNat (128 + r % 64)] := by unfold encR; rw [if_neg c1, if_pos c2]
theorem encR3 {r : Nat} (c2 : ¬ r < 2048) (c3 : r < 65536) : encR r = [UInt8.ofNat (224 + r / 4096), UInt8.ofNat (128 + r / 64 % 64), UInt8.ofNat (128 + r % 64)] := by
  unfold encR; rw [if_neg (by omega), if_neg c2, if_pos c3]
theorem encR4 {r : Nat} (c3 : ¬ r < 65536) : encR r = [UInt8.ofNat (240 + r / 262144), UInt8.ofNat (128 + r / 4096 % 64), UInt8.ofNat (128 + r / 64 % 64), UInt8.ofNat (128 + r % 64)] := by
  unfold encR; rw [if_neg (by omega), if_neg (by omega), if_neg c3]
/-- It is what 'string(r)' gives. -/
theorem encode_encR (r : Nat) (h : okR r) : (Utf8.encode (r : Int)).data.toList = encR r := by
  unfold okR at h
  by_cases c1 : r < 128
  · rw [encR1 c1, enc1' r c1]
  by_cases c2 : r < 2048
  · rw [encR2 c1 c2, enc2' r c1 c2]
  by_cases c3 : r < 65536
  · rw [encR3 c2 c3, enc3' r c2 c3 (by omega)]
  · rw [encR4 c3, enc4' r c3 (by omega)]

theorem encR_len {r : Nat} (_ : okR r) : 1 ≤ (encR r).length ∧ (encR r).length ≤ 4 ∧ ((encR r).length = 1 ↔ r < 128) := by
  by_cases c1 : r < 128
  · rw [encR1 c1]; simp [c1]
  by_cases c2 : r < 2048
  · rw [encR2 c1 c2]; simp; omega
  by_cases c3 : r < 65536
  · rw [encR3 c2 c3]; simp; omega
  · rw [encR4 c3]; simp; omega

theorem get_of {bs : ByteArray} {l : List UInt8} (hb : bs.data.toList = l) {k : Nat} {c : UInt8} (h : l[k]? = some c) : bs.get! k = c := by
  subst hb
  have h2 : bs.data[k]? = some c := by simpa using h
  show bs.data[k]! = c
  rw [getElem!_def, h2]

theorem size_of {bs : ByteArray} {l : List UInt8} (hb : bs.data.toList = l) : bs.size = l.length := by
  subst hb; exact Array.length_toList.symm

/-- Where a rune's bytes stand, it is decoded. -/
theorem decode_enc {bs : ByteArray} {pre post : List UInt8} {r : Nat} (h : okR r) (hb : bs.data.toList = pre ++ (encR r ++ post)) : Utf8.decode bs pre.length = (r, (encR r).length) := by
  have hs : bs.size - pre.length = (encR r).length + post.length := by
    rw [size_of hb]; simp only [List.length_append]; omega
  have hg : ∀ j c, (encR r)[j]? = some c → bs.get! (pre.length + j) = c := fun j c hj => get_of hb (by
    rw [List.getElem?_append_right (by omega), Nat.add_sub_cancel_left, List.getElem?_append_left]
    · exact hj
    · exact (List.getElem?_eq_some_iff.1 hj).1)
  rw [Go.Lib.decode_at, hs]
  unfold okR at h
  by_cases c1 : r < 128
  · have e := encR1 c1
    rw [e] at hg ⊢
    have g0 := hg 0 _ rfl
    rw [Nat.add_zero] at g0
    rw [g0]
    have t0 : (UInt8.ofNat r).toNat = r := by simp; omega
    unfold Go.Lib.decodeN
    rw [t0, if_pos c1]
    rfl
  by_cases c2 : r < 2048
  · have e := encR2 c1 c2
    rw [e] at hg ⊢
    have g0 := hg 0 _ rfl
    have g1 := hg 1 _ rfl
    rw [Nat.add_zero] at g0
    rw [g0, g1]
    have t0 : (UInt8.ofNat (192 + r / 64)).toNat = 192 + r / 64 := by simp; omega
    have t1 : (UInt8.ofNat (128 + r % 64)).toNat = 128 + r % 64 := by simp; omega
    unfold Go.Lib.decodeN
    rw [t0, t1, if_neg (by omega), if_pos ⟨by omega, by simp only [List.length_cons]; omega, by omega⟩, if_pos (by omega)]
    exact Prod.ext (by simp only; omega) rfl
  by_cases c3 : r < 65536
  · have e := encR3 c2 c3
    rw [e] at hg ⊢
    have g0 := hg 0 _ rfl
    have g1 := hg 1 _ rfl
    have g2 := hg 2 _ rfl
    rw [Nat.add_zero] at g0
    rw [g0, g1, g2]
    have t0 : (UInt8.ofNat (224 + r / 4096)).toNat = 224 + r / 4096 := by simp; omega
    have t1 : (UInt8.ofNat (128 + r / 64 % 64)).toNat = 128 + r / 64 % 64 := by simp; omega
    have t2 : (UInt8.ofNat (128 + r % 64)).toNat = 128 + r % 64 := by simp; omega
    unfold Go.Lib.decodeN
    rw [t0, t1, t2, if_neg (by omega), if_neg (by omega), if_pos ⟨by omega, ⟨by simp only [List.length_cons]; omega, by omega⟩, by simp only [List.length_cons]; omega, by omega⟩, if_pos ⟨by omega, by omega⟩]
    exact Prod.ext (by simp only; omega) rfl
  · have e := encR4 c3
    rw [e] at hg ⊢
    have g0 := hg 0 _ rfl
    have g1 := hg 1 _ rfl
    have g2 := hg 2 _ rfl
    have g3 := hg 3 _ rfl
    rw [Nat.add_zero] at g0
    rw [g0, g1, g2, g3]
    have t0 : (UInt8.ofNat (240 + r / 262144)).toNat = 240 + r / 262144 := by simp; omega
    have t1 : (UInt8.ofNat (128 + r / 4096 % 64)).toNat = 128 + r / 4096 % 64 := by simp; omega
    have t2 : (UInt8.ofNat (128 + r / 64 % 64)).toNat = 128 + r / 64 % 64 := by simp; omega
    have t3 : (UInt8.ofNat (128 + r % 64)).toNat = 128 + r % 64 := by simp; omega
    unfold Go.Lib.decodeN
    rw [t0, t1, t2, t3, if_neg (by omega), if_neg (by omega), if_neg (by omega), if_pos ⟨by omega, ⟨by simp only [List.length_cons]; omega, by omega⟩, ⟨by simp only [List.length_cons]; omega, by omega⟩, by simp only [List.length_cons]; omega, by omega⟩, if_pos ⟨by omega, by omega⟩]
    exact Prod.ext (by simp only; omega) rfl

theorem encL_append (a b : List Nat) : encL (a ++ b) = encL a ++ encL b := List.flatMap_append
theorem encL_cons (a : Nat) (b : List Nat) : encL (a :: b) = encR a ++ encL b := List.flatMap_cons
theorem encL_nil : encL [] = [] := rfl

/-- The column behind a list of runes. -/
def colOf (l : List Nat) : Nat := l.foldl (fun c r => if r = 10 then 0 else c + 1) 0
theorem colOf_snoc (l : List Nat) (r : Nat) : colOf (l ++ [r]) = if r = 10 then 0 else colOf l + 1 := by
  unfold colOf; rw [List.foldl_append]; rfl
def lastW (l : List Nat) : Nat := match l.getLast? with | some r => (encR r).length | none => 0
theorem lastW_snoc (l : List Nat) (r : Nat) : lastW (l ++ [r]) = (encR r).length := by
  unfold lastW; rw [List.getLast?_append]; rfl
def curOf : Option Nat → Int
  | some r => (r : Int)
  | none => -1

/-- Where rune number k stands. -/
def posR (R : List Nat) (k : Nat) : Nat := (encL (R.take k)).length

/-- THE STATE AT RUNE NUMBER k. -/
def rs (R : List Nat) (k : Nat) : SS where
  off := if k < R.length then posR R (k + 1) else (encL R).length + 1
  row := 1 + (R.take (k + 1)).count 10
  col := colOf (R.take (k + 1))
  width := lastW (R.take (k + 1))
  curr := curOf R[k]?
  errs := 0

theorem take_snoc' {α : Type} {l : List α} {k : Nat} (h : k < l.length) : l.take (k + 1) = l.take k ++ [l[k]] := List.take_succ_eq_append_getElem h

theorem posR_succ {R : List Nat} {k : Nat} (h : k < R.length) : posR R (k + 1) = posR R k + (encR R[k]).length := by
  unfold posR
  rw [take_snoc' h, encL_append, List.length_append, encL_cons, encL_nil, List.append_nil]
theorem posR_all {R : List Nat} {k : Nat} (h : R.length ≤ k) : posR R k = (encL R).length := by
  unfold posR; rw [List.take_of_length_le h]
theorem posR_le {R : List Nat} : ∀ k, posR R k ≤ (encL R).length := fun k => by
  have : (encL R).length = posR R k + (encL (R.drop k)).length := by
    unfold posR; rw [← List.length_append, ← encL_append, List.take_append_drop]
  omega

theorem SS.ext' {a b : SS} (h1 : a.off = b.off) (h2 : a.row = b.row) (h3 : a.col = b.col) (h4 : a.width = b.width) (h5 : a.curr = b.curr) (h6 : a.errs = b.errs) : a = b := by
  cases a; cases b; simp only at *; subst h1 h2 h3 h4 h5 h6; rfl

/-- All runes of a text are good, and these are its bytes. -/
structure Txt (bs : ByteArray) (R : List Nat) : Prop where
  ok : ∀ r ∈ R, okG r
  bytes : bs.data.toList = encL R

theorem Txt.size {bs : ByteArray} {R : List Nat} (h : Txt bs R) : bs.size = (encL R).length := size_of h.bytes

theorem Txt.decode {bs : ByteArray} {R : List Nat} (h : Txt bs R) {k : Nat} (hk : k < R.length) : Utf8.decode bs (posR R k) = (R[k], (encR R[k]).length) := by
  refine decode_enc (post := encL (R.drop (k + 1))) (h.ok _ (List.getElem_mem hk)).1 ?_
  rw [h.bytes, ← encL_cons, ← List.drop_eq_getElem_cons hk, ← encL_append, List.take_append_drop]

theorem stepErr_ok {r o : Nat} (h : okG r) : stepErr o (r, (encR r).length) = 0 := by
  have h1 := (encR_len h.1).2.2
  have h2 : ¬ (r = 65533 ∧ (encR r).length = 1) := fun hc => by have := h1.1 hc.2; have := hc.1; omega
  have h3 : ¬ (r = 65279 ∧ 0 < o) := fun hc => h.2.2 hc.1
  have h4 := h.2.1
  clear h1 h
  generalize (encR r).length = n at *
  unfold stepErr
  dsimp only
  rw [if_neg h4, if_neg h2, if_neg h3]

theorem posR_lt {bs : ByteArray} {R : List Nat} (h : Txt bs R) {k : Nat} (hk : k < R.length) : posR R k < bs.size := by
  have h1 := posR_succ hk
  have h2 := (encR_len (h.ok _ (List.getElem_mem hk)).1).1
  have h3 := posR_le (R := R) (k + 1)
  rw [h.size]; omega

theorem next_gen {bs : ByteArray} {R : List Nat} (h : Txt bs R) {k : Nat} {s : SS} (h1 : s.off = if k < R.length then posR R k else s.off) (hx : R.length ≤ k → bs.size ≤ s.off) (h2 : s.row = 1 + (R.take k).count 10) (h3 : s.col = colOf (R.take k))
    (h4 : s.width = lastW (R.take k)) (h6 : s.errs = 0) : nextS bs s = rs R k := by
  by_cases hk : k < R.length
  · rw [if_pos hk] at h1
    have hlt := posR_lt h hk
    have hd := h.decode hk
    unfold nextS
    rw [h1, if_pos hlt, hd]
    have ht := take_snoc' hk
    refine SS.ext' ?_ ?_ ?_ ?_ ?_ ?_
    · show _ = if k < R.length then posR R (k + 1) else _
      rw [if_pos hk, posR_succ hk]
    · show (if R[k] = 10 then s.row + 1 else s.row) = 1 + (R.take (k + 1)).count 10
      rw [ht, List.count_append, h2]
      by_cases h10 : R[k] = 10
      · rw [if_pos h10, h10, List.count_singleton_self]; omega
      · rw [if_neg h10, List.count_singleton, if_neg (by simpa using h10)]; omega
    · show (if R[k] = 10 then 0 else s.col + 1) = colOf (R.take (k + 1))
      rw [ht, colOf_snoc, h3]
    · show _ = lastW (R.take (k + 1))
      rw [ht, lastW_snoc]
    · show (R[k] : Int) = curOf R[k]?
      rw [List.getElem?_eq_getElem hk]; rfl
    · show s.errs + _ = 0
      rw [h6, stepErr_ok (h.ok _ (List.getElem_mem hk))]
  · have hle : R.length ≤ k := by omega
    have hsz := hx hle
    unfold nextS
    rw [if_neg (by omega)]
    have t1 : R.take k = R := List.take_of_length_le hle
    have t2 : R.take (k + 1) = R := List.take_of_length_le (by omega)
    refine SS.ext' ?_ ?_ ?_ ?_ ?_ ?_
    · show bs.size + 1 = if k < R.length then posR R (k + 1) else _
      rw [if_neg hk, h.size]
    · show s.row = 1 + (R.take (k + 1)).count 10
      rw [h2, t1, t2]
    · show s.col = colOf (R.take (k + 1))
      rw [h3, t1, t2]
    · show s.width = lastW (R.take (k + 1))
      rw [h4, t1, t2]
    · show (-1 : Int) = curOf R[k]?
      rw [List.getElem?_eq_none hle]; rfl
    · exact h6

theorem next_rs {bs : ByteArray} {R : List Nat} (h : Txt bs R) (k : Nat) : nextS bs (rs R k) = rs R (k + 1) := by
  refine next_gen h ?_ ?_ rfl rfl rfl rfl
  · show (if k < R.length then _ else _) = _
    by_cases h1 : k + 1 < R.length
    · rw [if_pos (by omega), if_pos h1]
    · rw [if_neg h1]; rfl
  · intro hle
    show bs.size ≤ (if k < R.length then _ else _)
    rw [h.size]
    by_cases h1 : k < R.length
    · rw [if_pos h1, posR_all hle]; exact Nat.le_refl _
    · rw [if_neg h1]; omega

theorem iter_rs {bs : ByteArray} {R : List Nat} (h : Txt bs R) (k : Nat) : ∀ n, iterS bs n (rs R k) = rs R (k + n)
  | 0 => rfl
  | n + 1 => by show nextS bs (iterS bs n (rs R k)) = _; rw [iter_rs h k n, next_rs h]; rfl

theorem first_rs {bs : ByteArray} {R : List Nat} (h : Txt bs R) : nextS bs s00 = rs R 0 := by
  refine next_gen h ?_ ?_ rfl rfl rfl rfl
  · by_cases h1 : 0 < R.length
    · rw [if_pos h1]; rfl
    · rw [if_neg h1]
  · intro hle
    have : R = [] := List.eq_nil_of_length_eq_zero (by omega)
    subst this
    rw [h.size]; exact Nat.le_refl _

/-! the state's parts, at a rune and at the end -/
theorem rs_end {R : List Nat} {k : Nat} (h : R.length ≤ k) : rs R (k + 1) = rs R k := by
  refine SS.ext' ?_ ?_ ?_ ?_ ?_ rfl
  · show (if k + 1 < R.length then _ else _) = (if k < R.length then _ else _)
    rw [if_neg (by omega), if_neg (by omega)]
  · show 1 + (R.take (k + 1 + 1)).count 10 = 1 + (R.take (k + 1)).count 10
    rw [List.take_of_length_le (by omega), List.take_of_length_le (by omega)]
  · show colOf (R.take (k + 1 + 1)) = colOf (R.take (k + 1))
    rw [List.take_of_length_le (by omega), List.take_of_length_le (by omega)]
  · show lastW (R.take (k + 1 + 1)) = lastW (R.take (k + 1))
    rw [List.take_of_length_le (by omega), List.take_of_length_le (by omega)]
  · show curOf R[k + 1]? = curOf R[k]?
    rw [List.getElem?_eq_none (by omega), List.getElem?_eq_none h]

theorem rs_off {R : List Nat} {k : Nat} (h : k < R.length) : (rs R k).off = posR R k + (encR R[k]).length := by
  show (if k < R.length then _ else _) = _
  rw [if_pos h, posR_succ h]
theorem rs_width {R : List Nat} {k : Nat} (h : k < R.length) : (rs R k).width = (encR R[k]).length := by
  show lastW (R.take (k + 1)) = _
  rw [take_snoc' h, lastW_snoc]
theorem rs_off_end {R : List Nat} {k : Nat} (h : R.length ≤ k) : (rs R k).off = (encL R).length + 1 := by
  show (if k < R.length then _ else _) = _
  rw [if_neg (by omega)]

/-- At an ASCII rune, or at the end: one behind the place. -/
theorem rs_off_one {R : List Nat} {k : Nat} (h : ∀ r, R[k]? = some r → r < 128) : (rs R k).off = posR R k + 1 := by
  by_cases hk : k < R.length
  · rw [rs_off hk, encR1 (h _ (List.getElem?_eq_getElem hk))]; rfl
  · rw [rs_off_end (by omega), posR_all (by omega)]

theorem rs_clr (R : List Nat) (k : Nat) : (rs R k).clr = rs R k := rfl

end Go.Proofs.YtplljfbbipeakaaDoor

namespace Go.Proofs.YtplljfbbipeakaaDoor
open Go

/-- The bytes of a list of runes, as a string. -/
def BA (l : List Nat) : ByteArray := ⟨(encL l).toArray⟩

/-- What may stand behind a token: white space, or nothing. -/
def stopB (post : List Nat) : Prop := ∀ r, post.head? = some r → r = 32 ∨ r = 9 ∨ r = 10 ∨ r = 13

section
variable {bs : ByteArray} {pre l post : List Nat}

theorem cur_at (j : Nat) {X : List Nat} : (rs (pre ++ X) (pre.length + j)).curr = curOf X[j]? := by
  show curOf (pre ++ X)[pre.length + j]? = _
  rw [List.getElem?_append_right (by omega), Nat.add_sub_cancel_left]
theorem cur_zero {X : List Nat} : (rs (pre ++ X) pre.length).curr = curOf X[0]? := cur_at 0
theorem cur_behind {X : List Nat} (a : List Nat) : (rs (pre ++ (a ++ X)) (pre.length + a.length)).curr = curOf X.head? := by
  rw [cur_at, List.getElem?_append_right (Nat.le_refl _), Nat.sub_self, List.head?_eq_getElem?]

theorem pos_pre {X : List Nat} : posR (pre ++ X) pre.length = (encL pre).length := by unfold posR; rw [List.take_left]
theorem pos_mid : posR (pre ++ (l ++ post)) (pre.length + l.length) = (encL pre).length + (encL l).length := by
  unfold posR
  rw [← List.append_assoc, show pre.length + l.length = (pre ++ l).length from (List.length_append).symm, List.take_left, encL_append, List.length_append]

theorem lit_mid (h : bs.data.toList = encL (pre ++ (l ++ post))) : bs.extract (encL pre).length ((encL pre).length + (encL l).length) = BA l := by
  apply ByteArray.ext
  apply Array.toList_inj.1
  rw [ByteArray.data_extract, Array.toList_extract]
  rw [h, encL_append, encL_append]
  simp [BA, List.extract]

/-- The ends of a token that begins with an ASCII rune and stops at one. -/
theorem ends (h : Txt bs (pre ++ (l ++ post))) (h0 : ∀ r, l.head? = some r → r < 128) (hl : l ≠ []) (hp : ∀ r, post.head? = some r → r < 128) :
    (rs (pre ++ (l ++ post)) pre.length).off = (encL pre).length + 1 ∧ (rs (pre ++ (l ++ post)) (pre.length + l.length)).off = (encL pre).length + (encL l).length + 1 ∧ 1 ≤ (encL l).length := by
  obtain ⟨c, t, rfl⟩ := List.exists_cons_of_ne_nil hl
  have hc : c < 128 := h0 c rfl
  refine ⟨?_, ?_, ?_⟩
  · rw [rs_off_one, pos_pre]
    intro r hr
    rw [List.getElem?_append_right (Nat.le_refl _), Nat.sub_self] at hr
    cases hr
    exact hc
  · rw [rs_off_one, pos_mid]
    intro r hr
    rw [List.getElem?_append_right (by omega), Nat.add_sub_cancel_left, List.getElem?_append_right (Nat.le_refl _), Nat.sub_self] at hr
    exact hp r (by rw [List.head?_eq_getElem?]; exact hr)
  · rw [encL_cons, List.length_append, encR1 hc, List.length_singleton]; omega

theorem stop_ascii (h : stopB post) : ∀ r, post.head? = some r → r < 128 := fun r hr => by have := h r hr; omega
theorem stop_cur (h : stopB post) : curOf post.head? = -1 ∨ curOf post.head? = 32 ∨ curOf post.head? = 9 ∨ curOf post.head? = 10 ∨ curOf post.head? = 13 := by
  cases hp : post.head? with
  | none => exact Or.inl rfl
  | some r =>
    have := h r hp
    simp only [curOf]
    omega

theorem tok_ws {kh : List UInt8 → Bool} {kt : List UInt8 → Int} {c : Nat} (h : Txt bs (pre ++ ([c] ++ post))) (hc : c = 32 ∨ c = 9 ∨ c = 10 ∨ c = 13) :
    Tok kh kt bs (rs (pre ++ ([c] ++ post)) pre.length) (rs (pre ++ ([c] ++ post)) (pre.length + [c].length)) 2 (BA [c]) := by
  refine Or.inl ⟨?_, rfl, ?_, (next_rs h _).symm⟩
  · rw [cur_zero]; exact decide_eq_true (by simp only [List.cons_append, List.getElem?_cons_zero, curOf]; omega)
  · rw [cur_zero]
    simp only [List.cons_append, List.getElem?_cons_zero, curOf, Int.toNat_natCast, BA, encL_cons, encL_nil, List.append_nil]
    rw [encR1 (by omega)]

theorem tok_eof {kh : List UInt8 → Bool} {kt : List UInt8 → Int} {R : List Nat} (h : Txt bs R) : Tok kh kt bs (rs R R.length) (rs R R.length) 1 ⟨#[]⟩ := by
  refine Or.inr (Or.inr (Or.inr (Or.inl ⟨?_, rfl, rfl, ?_⟩)))
  · show curOf R[R.length]? = -1
    rw [List.getElem?_eq_none (Nat.le_refl _)]; rfl
  · rw [next_rs h, rs_end (Nat.le_refl _)]

theorem tok_id {kh : List UInt8 → Bool} {kt : List UInt8 → Int} (h : Txt bs (pre ++ (l ++ post))) (hl : l ≠ []) (h0 : ∀ r, l.head? = some r → isLetB (r : Int) = true) (hi : ∀ r ∈ l, isIdB (r : Int) = true) (hp : stopB post) :
    Tok kh kt bs (rs (pre ++ (l ++ post)) pre.length) (rs (pre ++ (l ++ post)) (pre.length + l.length)) (kwTok kh kt (encL l)) (BA l) := by
  have ha : ∀ r : Nat, isIdB (r : Int) = true → r < 128 := fun r hr => by
    simp only [isIdB, isLetB, isDecB, Bool.or_eq_true, decide_eq_true_eq] at hr
    omega
  have hla : ∀ r, l.head? = some r → r < 128 := fun r hr => ha r (hi r (List.mem_of_head? hr))
  obtain ⟨e1, e2, e3⟩ := ends h hla hl (stop_ascii hp)
  refine Or.inr (Or.inl ⟨?_, by omega, by omega, ?_, rfl, l.length, ?_, ?_, ?_, (iter_rs h _ _).symm⟩)
  · obtain ⟨c, t, rfl⟩ := List.exists_cons_of_ne_nil hl
    rw [cur_zero]; exact h0 c rfl
  · rw [e1, e2, Nat.add_sub_cancel, Nat.add_sub_cancel]
    exact (lit_mid h.bytes).symm
  · intro j hj
    rw [iter_rs h, cur_at, List.getElem?_append_left hj, List.getElem?_eq_getElem hj]
    exact hi _ (List.getElem_mem hj)
  · rw [iter_rs h, cur_behind]
    rcases stop_cur hp with e | e | e | e | e <;> rw [e] <;> rfl
  · rw [iter_rs h, cur_behind]
    rcases stop_cur hp with e | e | e | e | e <;> rw [e] <;> decide

/-! numbers -/
theorem digits_at (h : Txt bs (pre ++ (l ++ post))) (a d b : List Nat) (hX : l ++ post = a ++ (d ++ b)) (hd : ∀ r ∈ d, isDecB (r : Int) = true) (hn : d ≠ []) (hb : isDecB (curOf b.head?) = false) :
    Digits bs (rs (pre ++ (l ++ post)) pre.length) a.length d.length := by
  refine ⟨fun j hj => ?_, ?_, ?_⟩
  · rw [iter_rs h, cur_at, hX, List.getElem?_append_right (by omega), Nat.add_sub_cancel_left, List.getElem?_append_left hj, List.getElem?_eq_getElem hj]
    exact hd _ (List.getElem_mem hj)
  · rw [iter_rs h, cur_at, hX, List.getElem?_append_right (by omega), Nat.add_sub_cancel_left, List.getElem?_append_right (Nat.le_refl _), Nat.sub_self, ← List.head?_eq_getElem?]
    exact hb
  · exact List.length_pos_iff.2 hn

/-- The four shapes of a number. -/
inductive NumC : List Nat → Prop
  | int (d1 : List Nat) : d1 ≠ [] → (∀ r ∈ d1, isDecB (r : Int) = true) → NumC d1
  | frac (d1 d2 : List Nat) : d1 ≠ [] → (∀ r ∈ d1, isDecB (r : Int) = true) → d2 ≠ [] → (∀ r ∈ d2, isDecB (r : Int) = true) → NumC (d1 ++ 46 :: d2)
  | exp (d1 d3 : List Nat) : d1 ≠ [] → (∀ r ∈ d1, isDecB (r : Int) = true) → d3 ≠ [] → (∀ r ∈ d3, isDecB (r : Int) = true) → NumC (d1 ++ 101 :: 45 :: d3)
  | both (d1 d2 d3 : List Nat) : d1 ≠ [] → (∀ r ∈ d1, isDecB (r : Int) = true) → d2 ≠ [] → (∀ r ∈ d2, isDecB (r : Int) = true) → d3 ≠ [] → (∀ r ∈ d3, isDecB (r : Int) = true) →
      NumC (d1 ++ 46 :: (d2 ++ 69 :: 43 :: d3))

theorem NumC.head {l : List Nat} (h : NumC l) : l ≠ [] ∧ ∀ r, l.head? = some r → isDecB (r : Int) = true := by
  have go : ∀ d1 t : List Nat, d1 ≠ [] → (∀ r ∈ d1, isDecB (r : Int) = true) → d1 ++ t ≠ [] ∧ ∀ r, (d1 ++ t).head? = some r → isDecB (r : Int) = true := by
    intro d1 t h1 h2
    obtain ⟨c, u, rfl⟩ := List.exists_cons_of_ne_nil h1
    exact ⟨by simp, fun r hr => by simp at hr; subst hr; exact h2 _ (.head _)⟩
  cases h with
  | int _ h1 h2 => have := go l [] h1 h2; simpa using this
  | frac d1 d2 h1 h2 => exact go _ _ h1 h2
  | exp d1 d3 h1 h2 => exact go _ _ h1 h2
  | both d1 d2 d3 h1 h2 => exact go _ _ h1 h2

theorem num_to (h : Txt bs (pre ++ (l ++ post))) (hN : NumC l) (hp : stopB post) : NumTo bs (rs (pre ++ (l ++ post)) pre.length) (rs (pre ++ (l ++ post)) (pre.length + l.length)) := by
  have hs := stop_cur hp
  have hsd : isDecB (curOf post.head?) = false := by rcases hs with e | e | e | e | e <;> rw [e] <;> rfl
  have hs46 : curOf post.head? ≠ 46 := by omega
  have hsE : curOf post.head? ≠ 69 ∧ curOf post.head? ≠ 101 := by omega
  have cb : ∀ m a b, l ++ post = a ++ b → m = a.length → (iterS bs m (rs (pre ++ (l ++ post)) pre.length)).curr = curOf b.head? := fun m a b hX e => by
    rw [iter_rs h, e, hX, cur_behind]
  have ce : ∀ n, n = l.length → rs (pre ++ (l ++ post)) (pre.length + l.length) = iterS bs n (rs (pre ++ (l ++ post)) pre.length) := fun n e => by rw [e, iter_rs h]
  cases hN with
  | int _ h1 h2 =>
    refine Or.inl ⟨l.length, digits_at h [] l post rfl h2 h1 hsd, ?_, ?_, ce _ rfl⟩
    · rw [cb _ l post rfl rfl]; exact hs46
    · rw [cb _ l post rfl rfl]; exact hsE
  | frac d1 d2 h1 h2 h3 h4 =>
    refine Or.inr (Or.inl ⟨d1.length, d2.length, digits_at h [] d1 (46 :: d2 ++ post) (by simp) h2 h1 rfl, ?_, ?_, ?_, ce _ (by simp; omega)⟩)
    · rw [cb _ d1 (46 :: d2 ++ post) (by simp) rfl]; rfl
    · have := digits_at h (d1 ++ [46]) d2 post (by simp) h4 h3 hsd
      simpa using this
    · rw [cb _ (d1 ++ 46 :: d2) post rfl (by simp; omega)]; exact hsE
  | exp d1 d3 h1 h2 h3 h4 =>
    refine Or.inr (Or.inr (Or.inl ⟨d1.length, d3.length, digits_at h [] d1 (101 :: 45 :: d3 ++ post) (by simp) h2 h1 rfl, ?_, ?_, ?_, ?_, ce _ (by simp; omega)⟩))
    · rw [cb _ d1 (101 :: 45 :: d3 ++ post) (by simp) rfl]; show (101 : Int) ≠ 46; decide
    · rw [cb _ d1 (101 :: 45 :: d3 ++ post) (by simp) rfl]; exact Or.inr rfl
    · rw [cb _ (d1 ++ [101]) (45 :: d3 ++ post) (by simp) (by simp)]; exact Or.inr rfl
    · have := digits_at h (d1 ++ [101, 45]) d3 post (by simp) h4 h3 hsd
      simpa using this
  | both d1 d2 d3 h1 h2 h3 h4 h5 h6 =>
    refine Or.inr (Or.inr (Or.inr ⟨d1.length, d2.length, d3.length, digits_at h [] d1 (46 :: (d2 ++ 69 :: 43 :: d3) ++ post) (by simp) h2 h1 rfl, ?_, ?_, ?_, ?_, ?_, ce _ (by simp; omega)⟩))
    · rw [cb _ d1 (46 :: (d2 ++ 69 :: 43 :: d3) ++ post) (by simp) rfl]; rfl
    · have := digits_at h (d1 ++ [46]) d2 (69 :: 43 :: d3 ++ post) (by simp) h4 h3 rfl
      simpa using this
    · rw [cb _ (d1 ++ 46 :: d2) (69 :: 43 :: d3 ++ post) (by simp) (by simp; omega)]; exact Or.inl rfl
    · rw [cb _ (d1 ++ 46 :: d2 ++ [69]) (43 :: d3 ++ post) (by simp) (by simp; omega)]; exact Or.inl rfl
    · have := digits_at h (d1 ++ 46 :: d2 ++ [69, 43]) d3 post (by simp) h6 h5 hsd
      have e : (d1 ++ 46 :: d2 ++ [69, 43]).length = d1.length + 1 + d2.length + 2 := by simp; omega
      rw [e] at this
      exact this

theorem tok_num {kh : List UInt8 → Bool} {kt : List UInt8 → Int} (h : Txt bs (pre ++ (l ++ post))) (hN : NumC l) (hp : stopB post) :
    Tok kh kt bs (rs (pre ++ (l ++ post)) pre.length) (rs (pre ++ (l ++ post)) (pre.length + l.length)) 16 (BA l) := by
  obtain ⟨hl, h0⟩ := hN.head
  have hla : ∀ r, l.head? = some r → r < 128 := fun r hr => by
    have := h0 r hr
    simp only [isDecB, decide_eq_true_eq] at this
    omega
  obtain ⟨e1, e2, e3⟩ := ends h hla hl (stop_ascii hp)
  refine Or.inr (Or.inr (Or.inl ⟨?_, by omega, by omega, ?_, rfl, num_to h hN hp, ?_⟩))
  · obtain ⟨c, t, rfl⟩ := List.exists_cons_of_ne_nil hl
    rw [cur_zero]; exact h0 c rfl
  · rw [e1, e2, Nat.add_sub_cancel, Nat.add_sub_cancel]
    exact (lit_mid h.bytes).symm
  · rw [cur_behind]
    rcases stop_cur hp with e | e | e | e | e <;> rw [e] <;> rfl

/-! strings -/
inductive StrC : List Nat → Prop
  | nil : StrC []
  | one (r : Nat) (l : List Nat) : r ≠ 34 → r ≠ 92 → r ≠ 10 → StrC l → StrC (r :: l)
  | esc (e : Nat) (l : List Nat) : isEscB (e : Int) = true → StrC l → StrC (92 :: e :: l)
  | uni (a b c : Nat) (l : List Nat) : StrC l → StrC (92 :: 117 :: a :: b :: c :: l)

theorem str_to {R : List Nat} (h : Txt bs R) (post : List Nat) : ∀ {l : List Nat}, StrC l → ∀ pre, R = pre ++ (l ++ 34 :: post) → ∃ n, StrTo bs n (rs R pre.length) (rs R (pre.length + l.length + 1)) := by
  intro l hl
  induction hl with
  | nil =>
    intro pre e
    refine ⟨0, Or.inr ⟨?_, ?_⟩⟩
    · rw [e, cur_zero]; rfl
    · rw [next_rs h]; rfl
  | one r l h1 h2 h3 _ ih =>
    intro pre e
    obtain ⟨n, hn⟩ := ih (pre ++ [r]) (by rw [e]; simp)
    have hc : (rs R pre.length).curr = (r : Int) := by rw [e, cur_zero]; rfl
    refine ⟨n + 1, rs R (pre.length + 1), ⟨by omega, by omega, by omega, Or.inl ⟨by omega, (next_rs h _).symm⟩⟩, ?_⟩
    have e1 : (pre ++ [r]).length = pre.length + 1 := by simp
    have e2 : (pre ++ [r]).length + l.length + 1 = pre.length + (r :: l).length + 1 := by simp; omega
    rw [e2, e1] at hn
    exact hn
  | esc x l h1 _ ih =>
    intro pre e
    obtain ⟨n, hn⟩ := ih (pre ++ [92, x]) (by rw [e]; simp)
    have hc : (rs R pre.length).curr = (92 : Int) := by rw [e, cur_zero]; rfl
    have hc1 : (nextS bs (rs R pre.length)).curr = (x : Int) := by rw [next_rs h, e, cur_at]; rfl
    refine ⟨n + 1, rs R (pre.length + 2), ⟨by omega, by omega, by omega, Or.inr (Or.inl ⟨hc, by rw [hc1]; exact h1, (iter_rs h _ _).symm⟩)⟩, ?_⟩
    have e1 : (pre ++ [92, x]).length = pre.length + 2 := by simp
    have e2 : (pre ++ [92, x]).length + l.length + 1 = pre.length + (92 :: x :: l).length + 1 := by simp; omega
    rw [e2, e1] at hn
    exact hn
  | uni a b c l _ ih =>
    intro pre e
    obtain ⟨n, hn⟩ := ih (pre ++ [92, 117, a, b, c]) (by rw [e]; simp)
    have hc : (rs R pre.length).curr = (92 : Int) := by rw [e, cur_zero]; rfl
    have hc1 : (nextS bs (rs R pre.length)).curr = (117 : Int) := by rw [next_rs h, e, cur_at]; rfl
    refine ⟨n + 1, rs R (pre.length + 5), ⟨by omega, by omega, by omega, Or.inr (Or.inr (Or.inl ⟨hc, hc1, (iter_rs h _ _).symm⟩))⟩, ?_⟩
    have e1 : (pre ++ [92, 117, a, b, c]).length = pre.length + 5 := by simp
    have e2 : (pre ++ [92, 117, a, b, c]).length + l.length + 1 = pre.length + (92 :: 117 :: a :: b :: c :: l).length + 1 := by simp; omega
    rw [e2, e1] at hn
    exact hn

theorem raw_to {R : List Nat} (h : Txt bs R) (post : List Nat) : ∀ (l : List Nat), (∀ r ∈ l, r ≠ 96) → ∀ pre, R = pre ++ (l ++ 96 :: post) → ∃ n, RawTo bs n (rs R pre.length) (rs R (pre.length + l.length + 1))
  | [], _, pre, e => ⟨0, Or.inr ⟨by rw [e, cur_zero]; rfl, by rw [next_rs h]; rfl⟩⟩
  | r :: l, hl, pre, e => by
    obtain ⟨n, hn⟩ := raw_to h post l (fun x hx => hl x (.tail _ hx)) (pre ++ [r]) (by rw [e]; simp)
    have hc : (rs R pre.length).curr = (r : Int) := by rw [e, cur_zero]; rfl
    have hr := hl r (.head _)
    refine ⟨n + 1, ⟨by omega, by omega⟩, ?_⟩
    have e1 : (pre ++ [r]).length = pre.length + 1 := by simp
    have e2 : (pre ++ [r]).length + l.length + 1 = pre.length + (r :: l).length + 1 := by simp; omega
    rw [e2, e1] at hn
    rw [next_rs h]
    exact hn

/-- The place of the state behind a quote, a backquote, a '#'. -/
theorem behind_one {c d : Nat} {t : List Nat} (h : Txt bs (pre ++ (c :: d :: t))) (hc : c < 128) :
    (nextS bs (rs (pre ++ (c :: d :: t)) pre.length)).off - ((nextS bs (rs (pre ++ (c :: d :: t)) pre.length)).width + 1) = (encL pre).length ∧
    (nextS bs (rs (pre ++ (c :: d :: t)) pre.length)).width + 1 ≤ (nextS bs (rs (pre ++ (c :: d :: t)) pre.length)).off ∧ 1 ≤ (nextS bs (rs (pre ++ (c :: d :: t)) pre.length)).width := by
  have hlt : pre.length + 1 < (pre ++ (c :: d :: t)).length := by simp only [List.length_append, List.length_cons]; omega
  have hd := (encR_len (h.ok _ (List.getElem_mem hlt)).1).1
  rw [next_rs h, rs_off hlt, rs_width hlt]
  have e : posR (pre ++ (c :: d :: t)) (pre.length + 1) = (encL pre).length + 1 := by
    have := pos_mid (pre := pre) (l := [c]) (post := d :: t)
    simp only [List.length_singleton, List.cons_append, List.nil_append] at this
    rw [this, encL_cons, encL_nil, List.append_nil, encR1 hc]; rfl
  rw [e]
  omega

theorem tok_str {kh : List UInt8 → Bool} {kt : List UInt8 → Int} {x : List Nat} (h : Txt bs (pre ++ ((34 :: (x ++ [34])) ++ post))) (hx : StrC x) (hp : stopB post) :
    Tok kh kt bs (rs (pre ++ ((34 :: (x ++ [34])) ++ post)) pre.length) (rs (pre ++ ((34 :: (x ++ [34])) ++ post)) (pre.length + (34 :: (x ++ [34])).length)) 17 (BA (34 :: (x ++ [34]))) := by
  obtain ⟨e1, e2, e3⟩ := ends h (fun r hr => by cases hr; decide) (by simp) (stop_ascii hp)
  obtain ⟨n, hn⟩ := str_to h post hx (pre ++ [34]) (by simp)
  have hb : (nextS bs (rs (pre ++ ((34 :: (x ++ [34])) ++ post)) pre.length)).off - ((nextS bs (rs (pre ++ ((34 :: (x ++ [34])) ++ post)) pre.length)).width + 1) = (encL pre).length ∧
    (nextS bs (rs (pre ++ ((34 :: (x ++ [34])) ++ post)) pre.length)).width + 1 ≤ (nextS bs (rs (pre ++ ((34 :: (x ++ [34])) ++ post)) pre.length)).off ∧ 1 ≤ (nextS bs (rs (pre ++ ((34 :: (x ++ [34])) ++ post)) pre.length)).width := by
    cases x with
    | nil => exact behind_one h (by decide)
    | cons d t => exact behind_one h (by decide)
  refine Or.inr (Or.inr (Or.inr (Or.inr (Or.inr (Or.inl ⟨?_, rfl, hb.2.1, hb.2.2, ?_, n, ?_⟩)))))
  · rw [cur_zero]; rfl
  · rw [hb.1, e2, Nat.add_sub_cancel]
    exact (lit_mid h.bytes).symm
  · rw [next_rs h]
    have q1 : (pre ++ [34]).length = pre.length + 1 := by simp
    have q2 : (pre ++ [34]).length + x.length + 1 = pre.length + (34 :: (x ++ [34])).length := by simp; omega
    rw [q2, q1] at hn
    exact hn

theorem tok_raw {kh : List UInt8 → Bool} {kt : List UInt8 → Int} {x : List Nat} (h : Txt bs (pre ++ ((96 :: (x ++ [96])) ++ post))) (hx : ∀ r ∈ x, r ≠ 96) (hp : stopB post) :
    Tok kh kt bs (rs (pre ++ ((96 :: (x ++ [96])) ++ post)) pre.length) (rs (pre ++ ((96 :: (x ++ [96])) ++ post)) (pre.length + (96 :: (x ++ [96])).length)) 17 (BA (96 :: (x ++ [96]))) := by
  obtain ⟨e1, e2, e3⟩ := ends h (fun r hr => by cases hr; decide) (by simp) (stop_ascii hp)
  obtain ⟨n, hn⟩ := raw_to h post x hx (pre ++ [96]) (by simp)
  have hb : (nextS bs (rs (pre ++ ((96 :: (x ++ [96])) ++ post)) pre.length)).off - ((nextS bs (rs (pre ++ ((96 :: (x ++ [96])) ++ post)) pre.length)).width + 1) = (encL pre).length ∧
    (nextS bs (rs (pre ++ ((96 :: (x ++ [96])) ++ post)) pre.length)).width + 1 ≤ (nextS bs (rs (pre ++ ((96 :: (x ++ [96])) ++ post)) pre.length)).off ∧ 1 ≤ (nextS bs (rs (pre ++ ((96 :: (x ++ [96])) ++ post)) pre.length)).width := by
    cases x with
    | nil => exact behind_one h (by decide)
    | cons d t => exact behind_one h (by decide)
  refine Or.inr (Or.inr (Or.inr (Or.inr (Or.inr (Or.inr (Or.inl ⟨?_, rfl, hb.2.1, hb.2.2, ?_, n, ?_⟩))))))
  · rw [cur_zero]; rfl
  · rw [hb.1, e2, Nat.add_sub_cancel]
    exact (lit_mid h.bytes).symm
  · rw [next_rs h]
    have q1 : (pre ++ [96]).length = pre.length + 1 := by simp
    have q2 : (pre ++ [96]).length + x.length + 1 = pre.length + (96 :: (x ++ [96])).length := by simp; omega
    rw [q2, q1] at hn
    exact hn

/-- No byte of a rune other than 13 is 13. -/
theorem encR_ne13 {r : Nat} (h : okR r) (hr : r ≠ 13) : ∀ b ∈ encR r, b.toNat ≠ 13 := by
  unfold okR at h
  by_cases c1 : r < 128
  · rw [encR1 c1]; intro b hb; simp at hb; subst hb; simp; omega
  by_cases c2 : r < 2048
  · rw [encR2 c1 c2]; intro b hb; simp at hb; rcases hb with rfl | rfl <;> simp <;> omega
  by_cases c3 : r < 65536
  · rw [encR3 c2 c3]; intro b hb; simp at hb; rcases hb with rfl | rfl | rfl <;> simp <;> omega
  · rw [encR4 c3]; intro b hb; simp at hb; rcases hb with rfl | rfl | rfl | rfl <;> simp <;> omega

theorem tok_comm {kh : List UInt8 → Bool} {kt : List UInt8 → Int} {x t : List Nat} (h : Txt bs (pre ++ ((35 :: x) ++ 10 :: t))) (hx : ∀ r ∈ x, r ≠ 10 ∧ r ≠ 13) :
    Tok kh kt bs (rs (pre ++ ((35 :: x) ++ 10 :: t)) pre.length) (rs (pre ++ ((35 :: x) ++ 10 :: t)) (pre.length + (35 :: x).length)) 4 (BA (35 :: x)) := by
  obtain ⟨e1, e2, e3⟩ := ends h (fun r hr => by cases hr; decide) (by simp) (fun r hr => by cases hr; decide)
  have hb : (nextS bs (rs (pre ++ ((35 :: x) ++ 10 :: t)) pre.length)).off - ((nextS bs (rs (pre ++ ((35 :: x) ++ 10 :: t)) pre.length)).width + 1) = (encL pre).length ∧
    (nextS bs (rs (pre ++ ((35 :: x) ++ 10 :: t)) pre.length)).width + 1 ≤ (nextS bs (rs (pre ++ ((35 :: x) ++ 10 :: t)) pre.length)).off ∧ 1 ≤ (nextS bs (rs (pre ++ ((35 :: x) ++ 10 :: t)) pre.length)).width := by
    cases x with
    | nil => exact behind_one h (by decide)
    | cons d t => exact behind_one h (by decide)
  have hcur : ∀ j, (iterS bs j (nextS bs (rs (pre ++ ((35 :: x) ++ 10 :: t)) pre.length))).curr = curOf (x ++ 10 :: t)[j]? := fun j => by
    rw [next_rs h, iter_rs h, Nat.add_assoc, cur_at, Nat.add_comm 1 j]; rfl
  have hto : iterS bs x.length (nextS bs (rs (pre ++ ((35 :: x) ++ 10 :: t)) pre.length)) = rs (pre ++ ((35 :: x) ++ 10 :: t)) (pre.length + (35 :: x).length) := by
    rw [next_rs h, iter_rs h]; congr 1; simp; omega
  refine Or.inr (Or.inr (Or.inr (Or.inr (Or.inl ⟨?_, rfl, hb.2.1, by omega, ?_, x.length, ?_, ?_, ?_, ?_, hto.symm⟩))))
  · rw [cur_zero]; rfl
  · rw [hb.1, e2, Nat.add_sub_cancel]
    exact (lit_mid h.bytes).symm
  · intro j hj
    rw [hcur, List.getElem?_append_left hj, List.getElem?_eq_getElem hj]
    have := hx _ (List.getElem_mem hj)
    simp only [curOf]
    omega
  · rw [hcur, List.getElem?_append_right (Nat.le_refl _), Nat.sub_self]
    exact Or.inl rfl
  · rw [hto, e2]
    have hlt : (encL pre).length + (encL (35 :: x)).length + 1 - 2 = (encL pre).length + ((encL (35 :: x)).length - 1) := by omega
    have hlt2 : (encL (35 :: x)).length - 1 < (encL (35 :: x)).length := by omega
    have hgt : (encL (pre ++ ((35 :: x) ++ 10 :: t)))[(encL pre).length + ((encL (35 :: x)).length - 1)]? = some (encL (35 :: x))[(encL (35 :: x)).length - 1] := by
      rw [encL_append, List.getElem?_append_right (by omega), Nat.add_sub_cancel_left, encL_append, List.getElem?_append_left hlt2, List.getElem?_eq_getElem hlt2]
    rw [hlt, get_of h.bytes hgt]
    have hm : (encL (35 :: x))[(encL (35 :: x)).length - 1] ∈ encL (35 :: x) := List.getElem_mem hlt2
    obtain ⟨r, hr, hbr⟩ := List.mem_flatMap.1 hm
    refine encR_ne13 (h.ok r (by simp only [List.mem_append]; exact Or.inr (Or.inl hr))).1 ?_ _ hbr
    rcases List.mem_cons.1 hr with e | hr
    · omega
    · exact (hx r hr).2
  · rw [hb.1, hto, e2]; omega

/-! signs -/
theorem tok_s1 {kh : List UInt8 → Bool} {kt : List UInt8 → Int} {c : Nat} {k : Int} (h : Txt bs (pre ++ ([c] ++ post))) (hc : ((c : Int), k) ∈ signs1) :
    Tok kh kt bs (rs (pre ++ ([c] ++ post)) pre.length) (rs (pre ++ ([c] ++ post)) (pre.length + [c].length)) k ⟨#[]⟩ := by
  refine Or.inr (Or.inr (Or.inr (Or.inr (Or.inr (Or.inr (Or.inr (Or.inl ⟨?_, rfl, (next_rs h _).symm⟩)))))))
  rw [cur_zero]; exact hc
theorem tok_s1e {kh : List UInt8 → Bool} {kt : List UInt8 → Int} {c : Nat} {k : Int} (h : Txt bs (pre ++ ([c] ++ post))) (hc : ((c : Int), k) ∈ signs1e) (hp : stopB post) :
    Tok kh kt bs (rs (pre ++ ([c] ++ post)) pre.length) (rs (pre ++ ([c] ++ post)) (pre.length + [c].length)) k ⟨#[]⟩ := by
  refine Or.inr (Or.inr (Or.inr (Or.inr (Or.inr (Or.inr (Or.inr (Or.inr (Or.inl ⟨?_, ?_, rfl, (next_rs h _).symm⟩))))))))
  · rw [cur_zero]; exact hc
  · have := cur_behind (pre := pre) (X := post) [c]
    rw [next_rs h]
    simp only [List.length_singleton] at this
    rw [this]
    have := stop_cur hp
    omega
theorem tok_s2 {kh : List UInt8 → Bool} {kt : List UInt8 → Int} {c : Nat} {k : Int} (h : Txt bs (pre ++ ([c, 61] ++ post))) (hc : ((c : Int), k) ∈ signs2) :
    Tok kh kt bs (rs (pre ++ ([c, 61] ++ post)) pre.length) (rs (pre ++ ([c, 61] ++ post)) (pre.length + [c, 61].length)) k ⟨#[]⟩ := by
  refine Or.inr (Or.inr (Or.inr (Or.inr (Or.inr (Or.inr (Or.inr (Or.inr (Or.inr ⟨?_, ?_, rfl, (iter_rs h _ _).symm⟩))))))))
  · rw [cur_zero]; exact hc
  · rw [next_rs h, cur_at]; rfl

end

end Go.Proofs.YtplljfbbipeakaaDoor

namespace Go.Proofs.YtplljfbbipeakaaDoor
open Go

/-- One token that was scanned: its kind, its text, the states before and behind it. -/
structure TI where
  tk : Int
  lit : ByteArray
  s : SS
  s' : SS

/-- Tokens one behind the other, none of them the end's. -/
def Chain (kh : List UInt8 → Bool) (kt : List UInt8 → Int) (bs : ByteArray) : SS → List TI → SS → Prop
  | s, [], e => s = e
  | s, t :: ts, e => t.s = s ∧ Tok kh kt bs t.s t.s' t.tk t.lit ∧ t.tk ≠ 1 ∧ Chain kh kt bs t.s'.clr ts e

/-- A segment of a text: its runes, its kind, its text as a token; what it needs of what stands behind it. -/
inductive SegOk (kh : List UInt8 → Bool) (kt : List UInt8 → Int) : List Nat → Int → ByteArray → List Nat → Prop
  | ws (c : Nat) (post : List Nat) : (c = 32 ∨ c = 9 ∨ c = 10 ∨ c = 13) → SegOk kh kt [c] 2 (BA [c]) post
  | id (l post : List Nat) : l ≠ [] → (∀ r, l.head? = some r → isLetB (r : Int) = true) → (∀ r ∈ l, isIdB (r : Int) = true) → stopB post → SegOk kh kt l (kwTok kh kt (encL l)) (BA l) post
  | num (l post : List Nat) : NumC l → stopB post → SegOk kh kt l 16 (BA l) post
  | str (x post : List Nat) : StrC x → stopB post → SegOk kh kt (34 :: (x ++ [34])) 17 (BA (34 :: (x ++ [34]))) post
  | raw (x post : List Nat) : (∀ r ∈ x, r ≠ 96) → stopB post → SegOk kh kt (96 :: (x ++ [96])) 17 (BA (96 :: (x ++ [96]))) post
  | comm (x t : List Nat) : (∀ r ∈ x, r ≠ 10 ∧ r ≠ 13) → SegOk kh kt (35 :: x) 4 (BA (35 :: x)) (10 :: t)
  | s1 (c : Nat) (k : Int) (post : List Nat) : ((c : Int), k) ∈ signs1 → SegOk kh kt [c] k ⟨#[]⟩ post
  | s1e (c : Nat) (k : Int) (post : List Nat) : ((c : Int), k) ∈ signs1e → stopB post → SegOk kh kt [c] k ⟨#[]⟩ post
  | s2 (c : Nat) (k : Int) (post : List Nat) : ((c : Int), k) ∈ signs2 → SegOk kh kt [c, 61] k ⟨#[]⟩ post

theorem seg_tok {kh : List UInt8 → Bool} {kt : List UInt8 → Int} {bs : ByteArray} {pre l post : List Nat} {k : Int} {lit : ByteArray} (h : Txt bs (pre ++ (l ++ post))) (hs : SegOk kh kt l k lit post) :
    Tok kh kt bs (rs (pre ++ (l ++ post)) pre.length) (rs (pre ++ (l ++ post)) (pre.length + l.length)) k lit := by
  cases hs with
  | ws c _ h1 => exact tok_ws h h1
  | id _ _ h1 h2 h3 h4 => exact tok_id h h1 h2 h3 h4
  | num _ _ h1 h2 => exact tok_num h h1 h2
  | str x _ h1 h2 => exact tok_str h h1 h2
  | raw x _ h1 h2 => exact tok_raw h h1 h2
  | comm x t h1 => exact tok_comm h h1
  | s1 c k _ h1 => exact tok_s1 h h1
  | s1e c k _ h1 h2 => exact tok_s1e h h1 h2
  | s2 c k _ h1 => exact tok_s2 h h1

structure Seg where
  body : List Nat
  tk : Int
  lit : ByteArray

def segsR (gs : List Seg) : List Nat := gs.flatMap Seg.body
theorem segsR_cons (g : Seg) (gs : List Seg) : segsR (g :: gs) = g.body ++ segsR gs := List.flatMap_cons
theorem segsR_append (a b : List Seg) : segsR (a ++ b) = segsR a ++ segsR b := List.flatMap_append

def SegsOk (kh : List UInt8 → Bool) (kt : List UInt8 → Int) : List Seg → Prop
  | [] => True
  | g :: gs => SegOk kh kt g.body g.tk g.lit (segsR gs) ∧ g.tk ≠ 1 ∧ SegsOk kh kt gs

/-- The tokens of the segments from rune number i on. -/
def toks (R : List Nat) : Nat → List Seg → List TI
  | _, [] => []
  | i, g :: gs => ⟨g.tk, g.lit, rs R i, rs R (i + g.body.length)⟩ :: toks R (i + g.body.length) gs

theorem toks_length (R : List Nat) : ∀ (gs : List Seg) (i : Nat), (toks R i gs).length = gs.length
  | [], _ => rfl
  | g :: gs, i => by simp [toks, toks_length R gs]

theorem chain_segs {kh : List UInt8 → Bool} {kt : List UInt8 → Int} {bs : ByteArray} {R : List Nat} (h : Txt bs R) : ∀ (gs : List Seg) (pre : List Nat), R = pre ++ segsR gs → SegsOk kh kt gs →
    Chain kh kt bs (rs R pre.length) (toks R pre.length gs) (rs R R.length)
  | [], pre, e, _ => by
    have : R = pre := by rw [e]; simp [segsR]
    rw [this]; rfl
  | g :: gs, pre, e, ⟨h1, h2, h3⟩ => by
    have ih := chain_segs h gs (pre ++ g.body) (by rw [e, segsR_cons, List.append_assoc]) h3
    rw [List.length_append] at ih
    rw [segsR_cons] at e
    refine ⟨rfl, ?_, h2, ?_⟩
    · subst e; exact seg_tok h h1
    · show Chain kh kt bs (rs R (pre.length + g.body.length)).clr _ _
      rw [rs_clr]; exact ih

/-! what a token's record says -/
def TI.start (t : TI) : Int := (t.s.off : Int) - (t.s.width : Int)
def TI.stop (t : TI) : Int := (t.s'.off : Int) - (t.s'.width : Int)

/-- The text's last rune is of one byte. -/
def lastA (R : List Nat) : Prop := ∀ r, R.getLast? = some r → r < 128

theorem rs_place {R : List Nat} (hl : lastA R) (hne : R ≠ []) (j : Nat) : ((rs R j).off : Int) - ((rs R j).width : Int) = (posR R j : Int) := by
  by_cases hj : j < R.length
  · rw [rs_off hj, rs_width hj]; omega
  · rw [rs_off_end (by omega), posR_all (by omega)]
    have hw : (rs R j).width = 1 := by
      show lastW (R.take (j + 1)) = 1
      rw [List.take_of_length_le (by omega)]
      unfold lastW
      cases hg : R.getLast? with
      | none => exact absurd (List.getLast?_eq_none_iff.1 hg) hne
      | some r => exact congrArg List.length (encR1 (hl r hg))
    rw [hw]; omega

end Go.Proofs.YtplljfbbipeakaaDoor

namespace Go.Proofs.YtplljfbbipeakaaDoor
open Go

/-- What a new scanner begins with. -/
def sNew (bs : ByteArray) : SS := if (nextS bs s00).curr = 65279 then nextS bs (nextS bs s00) else nextS bs s00

theorem sNew_rs {bs : ByteArray} {R : List Nat} (h : Txt bs R) : sNew bs = rs R 0 := by
  unfold sNew
  rw [first_rs h, if_neg]
  show ¬ curOf R[0]? = 65279
  cases hr : R[0]? with
  | none => show ¬ ((-1 : Int) = 65279); decide
  | some r =>
    have hm : r ∈ R := List.mem_of_getElem? hr
    have := (h.ok r hm).2.2
    show ¬ ((r : Int) = 65279)
    omega

/-- The kinds of the keywords: none is that of the end, of white space. -/
def KtOk (kt : List UInt8 → Int) : Prop := ∀ l, 3 ≤ kt l ∧ kt l ≤ 255

theorem kwTok_range {kh : List UInt8 → Bool} {kt : List UInt8 → Int} (h : KtOk kt) (l : List UInt8) : 3 ≤ kwTok kh kt l ∧ kwTok kh kt l ≤ 255 := by
  unfold kwTok
  split
  · exact h l
  · decide

theorem sign_range : (∀ p ∈ signs1, 3 ≤ p.2 ∧ p.2 ≤ 255) ∧ (∀ p ∈ signs1e, 3 ≤ p.2 ∧ p.2 ≤ 255) ∧ (∀ p ∈ signs2, 3 ≤ p.2 ∧ p.2 ≤ 255) := by decide

theorem segOk_range {kh : List UInt8 → Bool} {kt : List UInt8 → Int} (hk : KtOk kt) {l post : List Nat} {k : Int} {lit : ByteArray} (h : SegOk kh kt l k lit post) : 2 ≤ k ∧ k ≤ 255 := by
  cases h with
  | ws => decide
  | id => have := kwTok_range (kh := kh) hk (encL l); omega
  | num => decide
  | str => decide
  | raw => decide
  | comm => decide
  | s1 c k _ h => have := sign_range.1 _ h; simp only at this; omega
  | s1e c k _ h => have := sign_range.2.1 _ h; simp only at this; omega
  | s2 c k _ h => have := sign_range.2.2 _ h; simp only at this; omega

theorem segOk_body {kh : List UInt8 → Bool} {kt : List UInt8 → Int} {l post : List Nat} {k : Int} {lit : ByteArray} (h : SegOk kh kt l k lit post) : 1 ≤ l.length := by
  cases h with
  | id _ _ h => exact List.length_pos_iff.2 h
  | num _ _ h => exact List.length_pos_iff.2 h.head.1
  | ws => simp
  | str => simp
  | raw => simp
  | comm => simp
  | s1 => simp
  | s1e => simp
  | s2 => simp

/-- A list of segments that is a text's. -/
def Segs (kh : List UInt8 → Bool) (kt : List UInt8 → Int) : List Seg → Prop
  | [] => True
  | g :: gs => SegOk kh kt g.body g.tk g.lit (segsR gs) ∧ Segs kh kt gs

theorem Segs.ok {kh : List UInt8 → Bool} {kt : List UInt8 → Int} (hk : KtOk kt) : ∀ {gs : List Seg}, Segs kh kt gs → SegsOk kh kt gs
  | [], _ => trivial
  | _ :: _, ⟨h1, h2⟩ => ⟨h1, by have := segOk_range hk h1; omega, Segs.ok hk h2⟩
theorem Segs.range {kh : List UInt8 → Bool} {kt : List UInt8 → Int} (hk : KtOk kt) : ∀ {gs : List Seg}, Segs kh kt gs → ∀ g ∈ gs, 2 ≤ g.tk ∧ g.tk ≤ 255
  | g :: gs, ⟨h1, h2⟩, x, hx => by
    rcases List.mem_cons.1 hx with rfl | hx
    · exact segOk_range hk h1
    · exact Segs.range hk h2 x hx
theorem Segs.length {kh : List UInt8 → Bool} {kt : List UInt8 → Int} : ∀ {gs : List Seg}, Segs kh kt gs → gs.length ≤ (segsR gs).length
  | [], _ => Nat.zero_le _
  | g :: gs, ⟨h1, h2⟩ => by
    have := Segs.length h2
    have := segOk_body h1
    rw [segsR_cons, List.length_append, List.length_cons]; omega

theorem encL_ge : ∀ {l : List Nat}, (∀ r ∈ l, okR r) → l.length ≤ (encL l).length
  | [], _ => Nat.zero_le _
  | r :: l, h => by
    have := encL_ge (fun x hx => h x (.tail _ hx))
    have := (encR_len (h r (.head _))).1
    rw [encL_cons, List.length_append, List.length_cons]; omega

def endT (R : List Nat) : TI := ⟨1, ⟨#[]⟩, rs R R.length, rs R R.length⟩

/-- What the scanner's tokens are. -/
theorem run_chain {kh : List UInt8 → Bool} {kt : List UInt8 → Int} {bs : ByteArray} {gs : List Seg} (hk : KtOk kt) (h : Txt bs (segsR gs)) (hG : Segs kh kt gs) :
    Chain kh kt bs (sNew bs) (toks (segsR gs) 0 gs) (endT (segsR gs)).s ∧ Tok kh kt bs (endT (segsR gs)).s (endT (segsR gs)).s' 1 ⟨#[]⟩ ∧ (toks (segsR gs) 0 gs).length ≤ bs.size := by
  refine ⟨?_, tok_eof h, ?_⟩
  · rw [sNew_rs h]
    exact chain_segs h gs [] rfl (hG.ok hk)
  · rw [toks_length, h.size]
    exact Nat.le_trans hG.length (encL_ge (fun r hr => (h.ok r hr).1))

theorem toks_mem {R : List Nat} : ∀ {gs : List Seg} {i : Nat} {t : TI}, t ∈ toks R i gs → ∃ g ∈ gs, t.tk = g.tk ∧ t.s'.errs = 0
  | g :: gs, i, t, h => by
    rcases List.mem_cons.1 h with rfl | h
    · exact ⟨g, .head _, rfl, rfl⟩
    · obtain ⟨x, hx, h1⟩ := toks_mem h
      exact ⟨x, .tail _ hx, h1⟩

end Go.Proofs.YtplljfbbipeakaaDoor

namespace Go.Proofs.YtplljfbbipeakaaDoor
open Go

/-- The runes of a string from a place on. -/
def runesF (s : ByteArray) : Nat → Nat → List Nat
  | 0, _ => []
  | f + 1, pos => if pos < s.size then (Utf8.decode s pos).1 :: runesF s f (pos + (Utf8.decode s pos).2) else []
def runesS (s : ByteArray) : List Nat := runesF s s.size 0

theorem runesF_end (s : ByteArray) (f pos : Nat) (h : ¬ pos < s.size) : runesF s f pos = [] := by
  cases f with
  | zero => rfl
  | succ f => unfold runesF; rw [if_neg h]
theorem runesF_step (s : ByteArray) (f pos : Nat) (h : pos < s.size) : runesF s (f + 1) pos = (Utf8.decode s pos).1 :: runesF s f (pos + (Utf8.decode s pos).2) := by
  rw [runesF, if_pos h]

theorem decodeN_ok (n b0 b1 b2 b3 : Nat) (h0 : b0 < 256) : (Go.Lib.decodeN n b0 b1 b2 b3).1 < 55296 ∨ (57344 ≤ (Go.Lib.decodeN n b0 b1 b2 b3).1 ∧ (Go.Lib.decodeN n b0 b1 b2 b3).1 ≤ 1114111) := by
  unfold Go.Lib.decodeN
  repeat' split
  all_goals simp only
  all_goals omega
theorem decode_ok (s : ByteArray) (i : Nat) : okR (Utf8.decode s i).1 := by
  rw [Go.Lib.decode_at]
  exact decodeN_ok _ _ _ _ _ (UInt8.toNat_lt _)

theorem runesF_ok (s : ByteArray) : ∀ (f pos : Nat), ∀ r ∈ runesF s f pos, okR r
  | 0, _, r, h => by cases h
  | f + 1, pos, r, h => by
    unfold runesF at h
    split at h
    · rcases List.mem_cons.1 h with rfl | h
      · exact decode_ok s pos
      · exact runesF_ok s f _ r h
    · cases h
theorem runesF_len (s : ByteArray) : ∀ (f pos : Nat), (runesF s f pos).length ≤ f
  | 0, _ => Nat.le_refl _
  | f + 1, pos => by
    unfold runesF
    split
    · have := runesF_len s f (pos + (Utf8.decode s pos).2); simp only [List.length_cons]; omega
    · simp

def hexD (d : Nat) : Nat := if d < 10 then 48 + d else 87 + d

/-- What spec.text writes for a rune. -/
def textR (raw : Bool) (r : Nat) : List Nat :=
  if r = 0 ∨ r = 65533 ∨ r = 65279 ∨ (raw = true ∧ (r = 96 ∨ r = 13)) then []
  else if raw = true then [r]
  else if r = 34 ∨ r = 92 then [92, r]
  else if r < 32 ∨ r = 127 then [92, 117, 48, 48, hexD (r / 16 % 16), hexD (r % 16)]
  else [r]
def textL (raw : Bool) (s : ByteArray) : List Nat := (runesS s).flatMap (textR raw)

/-- What spec.comment writes for a rune. -/
def commR (r : Nat) : List Nat := if 32 ≤ r ∧ r ≠ 65533 ∧ r ≠ 65279 then [r] else []
def commL (s : ByteArray) : List Nat := (runesS s).flatMap commR

theorem ba_nil : BA [] = ⟨#[]⟩ := rfl
theorem ba_app (a b : List Nat) : BA a ++ BA b = BA (a ++ b) := by
  apply ByteArray.ext; simp [BA, encL_append]
theorem ba_enc (r : Nat) (h : okR r) : Utf8.encode (r : Int) = BA [r] := by
  have e := encode_encR r h
  apply ByteArray.ext
  apply Array.toList_inj.1
  rw [e]; simp [BA, encL_cons, encL_nil]
theorem ba_one {r : Nat} (h : r < 128) : BA [r] = ⟨#[UInt8.ofNat r]⟩ := by
  simp [BA, encL_cons, encL_nil, encR1 h]

theorem encR_le (r : Nat) : (encR r).length ≤ 4 := by
  unfold encR
  repeat' split
  all_goals simp
theorem encL_le : ∀ l : List Nat, (encL l).length ≤ 4 * l.length
  | [] => by simp [encL]
  | r :: l => by
    have := encL_le l
    have := encR_le r
    rw [encL_cons, List.length_append, List.length_cons]; omega
theorem ba_size (l : List Nat) : (BA l).size = (encL l).length := by show (encL l).toArray.size = _; simp
theorem ba_size_le (l : List Nat) : (BA l).size ≤ 4 * l.length := by rw [ba_size]; exact encL_le l
theorem flat_le {f : Nat → List Nat} {k : Nat} (h : ∀ r, (f r).length ≤ k) : ∀ P : List Nat, (P.flatMap f).length ≤ k * P.length
  | [] => by simp
  | r :: P => by
    have h1 := flat_le h P
    have h2 := h r
    rw [List.flatMap_cons, List.length_append, List.length_cons, Nat.mul_add, Nat.mul_one]; omega
theorem commR_le (r : Nat) : (commR r).length ≤ 1 := by unfold commR; split <;> simp
theorem textR_le (raw : Bool) (r : Nat) : (textR raw r).length ≤ 6 := by
  unfold textR
  repeat' split
  all_goals simp
theorem encode_le (r : Nat) (h : okR r) : (Utf8.encode (r : Int)).size ≤ 4 := by
  rw [ba_enc r h]; have := ba_size_le [r]; simpa using this
theorem runes_pre {s : ByteArray} {P Q : List Nat} (h : runesS s = P ++ Q) : P.length ≤ s.size := by
  have h1 := runesF_len s s.size 0
  have h2 : (runesS s).length = P.length + Q.length := by rw [h, List.length_append]
  unfold runesS at h2; omega

theorem ba_text1 {P : List Nat} {raw : Bool} {r : Nat} {x : ByteArray} (h : BA (textR raw r) = x) : BA (P.flatMap (textR raw)) ++ x = BA ((P ++ [r]).flatMap (textR raw)) := by
  rw [List.flatMap_append, ← ba_app, ← h]; simp
theorem ba_text0 {P : List Nat} {raw : Bool} {r : Nat} (h : textR raw r = []) : BA (P.flatMap (textR raw)) = BA ((P ++ [r]).flatMap (textR raw)) := by
  rw [List.flatMap_append]; simp [h]
theorem ba_comm1 {P : List Nat} {r : Nat} {x : ByteArray} (h : BA (commR r) = x) : BA (P.flatMap commR) ++ x = BA ((P ++ [r]).flatMap commR) := by
  rw [List.flatMap_append, ← ba_app, ← h]; simp
theorem ba_comm0 {P : List Nat} {r : Nat} (h : commR r = []) : BA (P.flatMap commR) = BA ((P ++ [r]).flatMap commR) := by
  rw [List.flatMap_append]; simp [h]

end Go.Proofs.YtplljfbbipeakaaDoor
