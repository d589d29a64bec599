/- Texts as lists of runes: their bytes, and the scanner's state at each rune. No program in sight. -/
import Derived.Test.YtplljfbbipeakaaDoorSm3
namespace Go.Proofs.YtplljfbbipeakaaDoor
open Go

/-- The bytes of a rune, of a list of runes. -/
def encR (r : Nat) : List UInt8 :=
  if r < 128 then [UInt8.ofNat r]
  else if r < 2048 then [UInt8.ofNat (192 + r / 64), UInt8.ofNat (128 + r % 64)]
  else if r < 65536 then [UInt8.ofNat (224 + r / 4096), UInt8.ofNat (128 + r / 64 % 64), UInt8.ofNat (128 + r % 64)]
  else [UInt8.ofNat (240 + r / 262144), UInt8.ofNat (128 + r / 4096 % 64), UInt8.ofNat (128 + r / 64 % 64), UInt8.ofNat (128 + r % 64)]
def encL (l : List Nat) : List UInt8 := l.flatMap encR
def okR (r : Nat) : Prop := r < 55296 ∨ (57344 ≤ r ∧ r ≤ 1114111)
/-- A rune that the scanner takes without an error. -/
def okG (r : Nat) : Prop := okR r ∧ r ≠ 0 ∧ r ≠ 65279

theorem enc1' (r : Nat) (c1 : r < 128) : (Utf8.encode (r : Int)).data.toList = [UInt8.ofNat r] := by
  have v : Utf8.valid (r : Int) = true := by simp [Utf8.valid]; omega
  simp [Utf8.encode, v, c1]
theorem enc2' (r : Nat) (c1 : ¬ r < 128) (c2 : r < 2048) : (Utf8.encode (r : Int)).data.toList = [UInt8.ofNat (192 + r / 64), UInt8.ofNat (128 + r % 64)] := by
  have v : Utf8.valid (r : Int) = true := by simp [Utf8.valid]; omega
  simp [Utf8.encode, v, c1, c2]
theorem enc3' (r : Nat) (c2 : ¬ r < 2048) (c3 : r < 65536) (hv : r < 55296 ∨ 57344 ≤ r) : (Utf8.encode (r : Int)).data.toList = [UInt8.ofNat (224 + r / 4096), UInt8.ofNat (128 + r / 64 % 64), UInt8.ofNat (128 + r % 64)] := by
  have v : Utf8.valid (r : Int) = true := by simp [Utf8.valid]; omega
  have c1 : ¬ r < 128 := by omega
  simp [Utf8.encode, v, c1, c2, c3]
theorem enc4' (r : Nat) (c3 : ¬ r < 65536) (c4 : r ≤ 1114111) : (Utf8.encode (r : Int)).data.toList = [UInt8.ofNat (240 + r / 262144), UInt8.ofNat (128 + r / 4096 % 64), UInt8.ofNat (128 + r / 64 % 64), UInt8.ofNat (128 + r % 64)] := by
  have v : Utf8.valid (r : Int) = true := by simp [Utf8.valid]; omega
  have c1 : ¬ r < 128 := by omega
  have c2 : ¬ r < 2048 := by omega
  simp [Utf8.encode, v, c1, c2, c3]
theorem encR1 {r : Nat} (c1 : r < 128) : encR r = [UInt8.ofNat r] := by unfold encR; rw [if_pos c1]
theorem encR2 {r : Nat} (c1 : ¬ r < 128) (c2 : r < 2048) : encR r = [UInt8.ofNat (192 + r / 64), UInt8.ofNat (128 + r % 64)] := by unfold encR; rw [if_neg c1, if_pos c2]
theorem encR3 {r : Nat} (c2 : ¬ r < 2048) (c3 : r < 65536) : encR r = [UInt8.ofNat (224 + r / 4096), UInt8.ofNat (128 + r / 64 % 64), UInt8.ofNat (128 + r % 64)] := by
  unfold encR; rw [if_neg (by omega), if_neg c2, if_pos c3]
theorem encR4 {r : Nat} (c3 : ¬ r < 65536) : encR r = [UInt8.ofNat (240 + r / 262144), UInt8.ofNat (128 + r / 4096 % 64), UInt8.ofNat (128 + r / 64 % 64), UInt8.ofNat (128 + r % 64)] := by
  unfold encR; rw [if_neg (by omega), if_neg (by omega), if_neg c3]
/-- It is what 'string(r)' gives. -/
theorem encode_encR (r : Nat) (h : okR r) : (Utf8.encode (r : Int)).data.toList = encR r := by
  unfold okR at h
  by_cases c1 : r < 128
  · rw [encR1 c1, enc1' r c1]
  by_cases c2 : r < 2048
  · rw [encR2 c1 c2, enc2' r c1 c2]
  by_cases c3 : r < 65536
  · rw [encR3 c2 c3, enc3' r c2 c3 (by omega)]
  · rw [encR4 c3, enc4' r c3 (by omega)]

theorem encR_len {r : Nat} (_ : okR r) : 1 ≤ (encR r).length ∧ (encR r).length ≤ 4 ∧ ((encR r).length = 1 ↔ r < 128) := by
  by_cases c1 : r < 128
  · rw [encR1 c1]; simp [c1]
  by_cases c2 : r < 2048
  · rw [encR2 c1 c2]; simp; omega
  by_cases c3 : r < 65536
  · rw [encR3 c2 c3]; simp; omega
  · rw [encR4 c3]; simp; omega

theorem get_of {bs : ByteArray} {l : List UInt8} (hb : bs.data.toList = l) {k : Nat} {c : UInt8} (h : l[k]? = some c) : bs.get! k = c := by
  subst hb
  have h2 : bs.data[k]? = some c := by simpa using h
  show bs.data[k]! = c
  rw [getElem!_def, h2]

theorem size_of {bs : ByteArray} {l : List UInt8} (hb : bs.data.toList = l) : bs.size = l.length := by
  subst hb; exact Array.length_toList.symm

/-- Where a rune's bytes stand, it is decoded. -/
theorem decode_enc {bs : ByteArray} {pre post : List UInt8} {r : Nat} (h : okR r) (hb : bs.data.toList = pre ++ (encR r ++ post)) : Utf8.decode bs pre.length = (r, (encR r).length) := by
  have hs : bs.size - pre.length = (encR r).length + post.length := by
    rw [size_of hb]; simp only [List.length_append]; omega
  have hg : ∀ j c, (encR r)[j]? = some c → bs.get! (pre.length + j) = c := fun j c hj => get_of hb (by
    rw [List.getElem?_append_right (by omega), Nat.add_sub_cancel_left, List.getElem?_append_left]
    · exact hj
    · exact (List.getElem?_eq_some_iff.1 hj).1)
  rw [Go.Lib.decode_at, hs]
  unfold okR at h
  by_cases c1 : r < 128
  · have e := encR1 c1
    rw [e] at hg ⊢
    have g0 := hg 0 _ rfl
    rw [Nat.add_zero] at g0
    rw [g0]
    have t0 : (UInt8.ofNat r).toNat = r := by simp; omega
    unfold Go.Lib.decodeN
    rw [t0, if_pos c1]
    rfl
  by_cases c2 : r < 2048
  · have e := encR2 c1 c2
    rw [e] at hg ⊢
    have g0 := hg 0 _ rfl
    have g1 := hg 1 _ rfl
    rw [Nat.add_zero] at g0
    rw [g0, g1]
    have t0 : (UInt8.ofNat (192 + r / 64)).toNat = 192 + r / 64 := by simp; omega
    have t1 : (UInt8.ofNat (128 + r % 64)).toNat = 128 + r % 64 := by simp; omega
    unfold Go.Lib.decodeN
    rw [t0, t1, if_neg (by omega), if_pos ⟨by omega, by simp only [List.length_cons]; omega, by omega⟩, if_pos (by omega)]
    exact Prod.ext (by simp only; omega) rfl
  by_cases c3 : r < 65536
  · have e := encR3 c2 c3
    rw [e] at hg ⊢
    have g0 := hg 0 _ rfl
    have g1 := hg 1 _ rfl
    have g2 := hg 2 _ rfl
    rw [Nat.add_zero] at g0
    rw [g0, g1, g2]
    have t0 : (UInt8.ofNat (224 + r / 4096)).toNat = 224 + r / 4096 := by simp; omega
    have t1 : (UInt8.ofNat (128 + r / 64 % 64)).toNat = 128 + r / 64 % 64 := by simp; omega
    have t2 : (UInt8.ofNat (128 + r % 64)).toNat = 128 + r % 64 := by simp; omega
    unfold Go.Lib.decodeN
    rw [t0, t1, t2, if_neg (by omega), if_neg (by omega), if_pos ⟨by omega, ⟨by simp only [List.length_cons]; omega, by omega⟩, by simp only [List.length_cons]; omega, by omega⟩, if_pos ⟨by omega, by omega⟩]
    exact Prod.ext (by simp only; omega) rfl
  · have e := encR4 c3
    rw [e] at hg ⊢
    have g0 := hg 0 _ rfl
    have g1 := hg 1 _ rfl
    have g2 := hg 2 _ rfl
    have g3 := hg 3 _ rfl
    rw [Nat.add_zero] at g0
    rw [g0, g1, g2, g3]
    have t0 : (UInt8.ofNat (240 + r / 262144)).toNat = 240 + r / 262144 := by simp; omega
    have t1 : (UInt8.ofNat (128 + r / 4096 % 64)).toNat = 128 + r / 4096 % 64 := by simp; omega
    have t2 : (UInt8.ofNat (128 + r / 64 % 64)).toNat = 128 + r / 64 % 64 := by simp; omega
    have t3 : (UInt8.ofNat (128 + r % 64)).toNat = 128 + r % 64 := by simp; omega
    unfold Go.Lib.decodeN
    rw [t0, t1, t2, t3, if_neg (by omega), if_neg (by omega), if_neg (by omega), if_pos ⟨by omega, ⟨by simp only [List.length_cons]; omega, by omega⟩, ⟨by simp only [List.length_cons]; omega, by omega⟩, by simp only [List.length_cons]; omega, by omega⟩, if_pos ⟨by omega, by omega⟩]
    exact Prod.ext (by simp only; omega) rfl

theorem encL_append (a b : List Nat) : encL (a ++ b) = encL a ++ encL b := List.flatMap_append
theorem encL_cons (a : Nat) (b : List Nat) : encL (a :: b) = encR a ++ encL b := List.flatMap_cons
theorem encL_nil : encL [] = [] := rfl

/-- The column behind a list of runes. -/
def colOf (l : List Nat) : Nat := l.foldl (fun c r => if r = 10 then 0 else c + 1) 0
theorem colOf_snoc (l : List Nat) (r : Nat) : colOf (l ++ [r]) = if r = 10 then 0 else colOf l + 1 := by
  unfold colOf; rw [List.foldl_append]; rfl
def lastW (l : List Nat) : Nat := match l.getLast? with | some r => (encR r).length | none => 0
theorem lastW_snoc (l : List Nat) (r : Nat) : lastW (l ++ [r]) = (encR r).length := by
  unfold lastW; rw [List.getLast?_append]; rfl
def curOf : Option Nat → Int
  | some r => (r : Int)
  | none => -1

/-- Where rune number k stands. -/
def posR (R : List Nat) (k : Nat) : Nat := (encL (R.take k)).length

/-- THE STATE AT RUNE NUMBER k. -/
def rs (R : List Nat) (k : Nat) : SS where
  off := if k < R.length then posR R (k + 1) else (encL R).length + 1
  row := 1 + (R.take (k + 1)).count 10
  col := colOf (R.take (k + 1))
  width := lastW (R.take (k + 1))
  curr := curOf R[k]?
  errs := 0

theorem take_snoc' {α : Type} {l : List α} {k : Nat} (h : k < l.length) : l.take (k + 1) = l.take k ++ [l[k]] := List.take_succ_eq_append_getElem h

theorem posR_succ {R : List Nat} {k : Nat} (h : k < R.length) : posR R (k + 1) = posR R k + (encR R[k]).length := by
  unfold posR
  rw [take_snoc' h, encL_append, List.length_append, encL_cons, encL_nil, List.append_nil]
theorem posR_all {R : List Nat} {k : Nat} (h : R.length ≤ k) : posR R k = (encL R).length := by
  unfold posR; rw [List.take_of_length_le h]
theorem posR_le {R : List Nat} : ∀ k, posR R k ≤ (encL R).length := fun k => by
  have : (encL R).length = posR R k + (encL (R.drop k)).length := by
    unfold posR; rw [← List.length_append, ← encL_append, List.take_append_drop]
  omega

theorem SS.ext' {a b : SS} (h1 : a.off = b.off) (h2 : a.row = b.row) (h3 : a.col = b.col) (h4 : a.width = b.width) (h5 : a.curr = b.curr) (h6 : a.errs = b.errs) : a = b := by
  cases a; cases b; simp only at *; subst h1 h2 h3 h4 h5 h6; rfl

/-- All runes of a text are good, and these are its bytes. -/
structure Txt (bs : ByteArray) (R : List Nat) : Prop where
  ok : ∀ r ∈ R, okG r
  bytes : bs.data.toList = encL R

theorem Txt.size {bs : ByteArray} {R : List Nat} (h : Txt bs R) : bs.size = (encL R).length := size_of h.bytes

theorem Txt.decode {bs : ByteArray} {R : List Nat} (h : Txt bs R) {k : Nat} (hk : k < R.length) : Utf8.decode bs (posR R k) = (R[k], (encR R[k]).length) := by
  refine decode_enc (post := encL (R.drop (k + 1))) (h.ok _ (List.getElem_mem hk)).1 ?_
  rw [h.bytes, ← encL_cons, ← List.drop_eq_getElem_cons hk, ← encL_append, List.take_append_drop]

theorem stepErr_ok {r o : Nat} (h : okG r) : stepErr o (r, (encR r).length) = 0 := by
  have h1 := (encR_len h.1).2.2
  have h2 : ¬ (r = 65533 ∧ (encR r).length = 1) := fun hc => by have := h1.1 hc.2; have := hc.1; omega
  have h3 : ¬ (r = 65279 ∧ 0 < o) := fun hc => h.2.2 hc.1
  have h4 := h.2.1
  clear h1 h
  generalize (encR r).length = n at *
  unfold stepErr
  dsimp only
  rw [if_neg h4, if_neg h2, if_neg h3]

theorem posR_lt {bs : ByteArray} {R : List Nat} (h : Txt bs R) {k : Nat} (hk : k < R.length) : posR R k < bs.size := by
  have h1 := posR_succ hk
  have h2 := (encR_len (h.ok _ (List.getElem_mem hk)).1).1
  have h3 := posR_le (R := R) (k + 1)
  rw [h.size]; omega

theorem next_gen {bs : ByteArray} {R : List Nat} (h : Txt bs R) {k : Nat} {s : SS} (h1 : s.off = if k < R.length then posR R k else s.off) (hx : R.length ≤ k → bs.size ≤ s.off) (h2 : s.row = 1 + (R.take k).count 10) (h3 : s.col = colOf (R.take k))
    (h4 : s.width = lastW (R.take k)) (h6 : s.errs = 0) : nextS bs s = rs R k := by
  by_cases hk : k < R.length
  · rw [if_pos hk] at h1
    have hlt := posR_lt h hk
    have hd := h.decode hk
    unfold nextS
    rw [h1, if_pos hlt, hd]
    have ht := take_snoc' hk
    refine SS.ext' ?_ ?_ ?_ ?_ ?_ ?_
    · show _ = if k < R.length then posR R (k + 1) else _
      rw [if_pos hk, posR_succ hk]
    · show (if R[k] = 10 then s.row + 1 else s.row) = 1 + (R.take (k + 1)).count 10
      rw [ht, List.count_append, h2]
      by_cases h10 : R[k] = 10
      · rw [if_pos h10, h10, List.count_singleton_self]; omega
      · rw [if_neg h10, List.count_singleton, if_neg (by simpa using h10)]; omega
    · show (if R[k] = 10 then 0 else s.col + 1) = colOf (R.take (k + 1))
      rw [ht, colOf_snoc, h3]
    · show _ = lastW (R.take (k + 1))
      rw [ht, lastW_snoc]
    · show (R[k] : Int) = curOf R[k]?
      rw [List.getElem?_eq_getElem hk]; rfl
    · show s.errs + _ = 0
      rw [h6, stepErr_ok (h.ok _ (List.getElem_mem hk))]
  · have hle : R.length ≤ k := by omega
    have hsz := hx hle
    unfold nextS
    rw [if_neg (by omega)]
    have t1 : R.take k = R := List.take_of_length_le hle
    have t2 : R.take (k + 1) = R := List.take_of_length_le (by omega)
    refine SS.ext' ?_ ?_ ?_ ?_ ?_ ?_
    · show bs.size + 1 = if k < R.length then posR R (k + 1) else _
      rw [if_neg hk, h.size]
    · show s.row = 1 + (R.take (k + 1)).count 10
      rw [h2, t1, t2]
    · show s.col = colOf (R.take (k + 1))
      rw [h3, t1, t2]
    · show s.width = lastW (R.take (k + 1))
      rw [h4, t1, t2]
    · show (-1 : Int) = curOf R[k]?
      rw [List.getElem?_eq_none hle]; rfl
    · exact h6

theorem next_rs {bs : ByteArray} {R : List Nat} (h : Txt bs R) (k : Nat) : nextS bs (rs R k) = rs R (k + 1) := by
  refine next_gen h ?_ ?_ rfl rfl rfl rfl
  · show (if k < R.length then _ else _) = _
    by_cases h1 : k + 1 < R.length
    · rw [if_pos (by omega), if_pos h1]
    · rw [if_neg h1]; rfl
  · intro hle
    show bs.size ≤ (if k < R.length then _ else _)
    rw [h.size]
    by_cases h1 : k < R.length
    · rw [if_pos h1, posR_all hle]; exact Nat.le_refl _
    · rw [if_neg h1]; omega

theorem iter_rs {bs : ByteArray} {R : List Nat} (h : Txt bs R) (k : Nat) : ∀ n, iterS bs n (rs R k) = rs R (k + n)
  | 0 => rfl
  | n + 1 => by show nextS bs (iterS bs n (rs R k)) = _; rw [iter_rs h k n, next_rs h]; rfl

theorem first_rs {bs : ByteArray} {R : List Nat} (h : Txt bs R) : nextS bs s00 = rs R 0 := by
  refine next_gen h ?_ ?_ rfl rfl rfl rfl
  · by_cases h1 : 0 < R.length
    · rw [if_pos h1]; rfl
    · rw [if_neg h1]
  · intro hle
    have : R = [] := List.eq_nil_of_length_eq_zero (by omega)
    subst this
    rw [h.size]; exact Nat.le_refl _

/-! the state's parts, at a rune and at the end -/
theorem rs_end {R : List Nat} {k : Nat} (h : R.length ≤ k) : rs R (k + 1) = rs R k := by
  refine SS.ext' ?_ ?_ ?_ ?_ ?_ rfl
  · show (if k + 1 < R.length then _ else _) = (if k < R.length then _ else _)
    rw [if_neg (by omega), if_neg (by omega)]
  · show 1 + (R.take (k + 1 + 1)).count 10 = 1 + (R.take (k + 1)).count 10
    rw [List.take_of_length_le (by omega), List.take_of_length_le (by omega)]
  · show colOf (R.take (k + 1 + 1)) = colOf (R.take (k + 1))
    rw [List.take_of_length_le (by omega), List.take_of_length_le (by omega)]
  · show lastW (R.take (k + 1 + 1)) = lastW (R.take (k + 1))
    rw [List.take_of_length_le (by omega), List.take_of_length_le (by omega)]
  · show curOf R[k + 1]? = curOf R[k]?
    rw [List.getElem?_eq_none (by omega), List.getElem?_eq_none h]

theorem rs_off {R : List Nat} {k : Nat} (h : k < R.length) : (rs R k).off = posR R k + (encR R[k]).length := by
  show (if k < R.length then _ else _) = _
  rw [if_pos h, posR_succ h]
theorem rs_width {R : List Nat} {k : Nat} (h : k < R.length) : (rs R k).width = (encR R[k]).length := by
  show lastW (R.take (k + 1)) = _
  rw [take_snoc' h, lastW_snoc]
theorem rs_off_end {R : List Nat} {k : Nat} (h : R.length ≤ k) : (rs R k).off = (encL R).length + 1 := by
  show (if k < R.length then _ else _) = _
  rw [if_neg (by omega)]

/-- At an ASCII rune, or at the end: one behind the place. -/
theorem rs_off_one {R : List Nat} {k : Nat} (h : ∀ r, R[k]? = some r → r < 128) : (rs R k).off = posR R k + 1 := by
  by_cases hk : k < R.length
  · rw [rs_off hk, encR1 (h _ (List.getElem?_eq_getElem hk))]; rfl
  · rw [rs_off_end (by omega), posR_all (by omega)]

theorem rs_clr (R : List Nat) (k : Nat) : (rs R k).clr = rs R k := rfl

end Go.Proofs.YtplljfbbipeakaaDoor
