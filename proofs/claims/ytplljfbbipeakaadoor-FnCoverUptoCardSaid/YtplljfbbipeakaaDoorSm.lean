/- The scanner's state as plain data, and what one step ('next') makes of it. No program in sight. -/
import GoSem.Core.Utf8
import Derived.Lib.DecodeN
namespace Go.Proofs.YtplljfbbipeakaaDoor
open Go

/-- offset, row, column, width, the current rune (-1: the end), how many errors stand in the list. -/
structure SS where
  off : Nat
  row : Nat
  col : Nat
  width : Nat
  curr : Int
  errs : Nat

/-- How many errors one step adds. -/
def stepErr (off : Nat) (d : Nat × Nat) : Nat :=
  if d.1 = 0 then 1 else if d.1 = 65533 ∧ d.2 = 1 then 1 else if d.1 = 65279 ∧ 0 < off then 1 else 0

def nextS (bs : ByteArray) (s : SS) : SS :=
  if s.off < bs.size then
    { off := s.off + (Utf8.decode bs s.off).2
      row := if (Utf8.decode bs s.off).1 = 10 then s.row + 1 else s.row
      col := if (Utf8.decode bs s.off).1 = 10 then 0 else s.col + 1
      width := (Utf8.decode bs s.off).2
      curr := (Utf8.decode bs s.off).1
      errs := s.errs + stepErr s.off (Utf8.decode bs s.off) }
  else { s with curr := -1, off := bs.size + 1 }

/-- The state that a new scanner begins with. -/
def s00 : SS := { off := 0, row := 1, col := 0, width := 0, curr := -1, errs := 0 }

/-- One error more. -/
def SS.err (s : SS) : SS := { s with errs := s.errs + 1 }

structure SS.Ok (n : Nat) (s : SS) : Prop where
  off : s.off ≤ n + 1
  row : s.row ≤ s.off + 1
  col : s.col ≤ s.off
  width : s.width ≤ 4
  wo : s.width ≤ s.off
  lo : -1 ≤ s.curr
  hi : s.curr ≤ 1114111
  errs : s.errs ≤ 3 * s.off + 3

theorem decodeN_range (n b0 b1 b2 b3 : Nat) (hn : 1 ≤ n) (h0 : b0 < 256) :
    1 ≤ (Go.Lib.decodeN n b0 b1 b2 b3).2 ∧ (Go.Lib.decodeN n b0 b1 b2 b3).2 ≤ 4 ∧ (Go.Lib.decodeN n b0 b1 b2 b3).2 ≤ n ∧ (Go.Lib.decodeN n b0 b1 b2 b3).1 ≤ 1114111 := by
  unfold Go.Lib.decodeN
  repeat' split
  all_goals simp only
  all_goals omega

theorem decode_range (bs : ByteArray) (i : Nat) (hi : i < bs.size) :
    1 ≤ (Utf8.decode bs i).2 ∧ (Utf8.decode bs i).2 ≤ 4 ∧ i + (Utf8.decode bs i).2 ≤ bs.size ∧ (Utf8.decode bs i).1 ≤ 1114111 := by
  have h0 : (bs.get! i).toNat < 256 := UInt8.toNat_lt _
  rw [Go.Lib.decode_at]
  have := decodeN_range (bs.size - i) (bs.get! i).toNat (bs.get! (i + 1)).toNat (bs.get! (i + 2)).toNat (bs.get! (i + 3)).toNat (by omega) h0
  omega

/-- An ASCII byte is its own rune; any other byte begins a rune of at least 128. -/
theorem decode_ascii (bs : ByteArray) (i : Nat) (h : (bs.get! i).toNat < 128) : Utf8.decode bs i = ((bs.get! i).toNat, 1) := by
  rw [Go.Lib.decode_at]; unfold Go.Lib.decodeN; rw [if_pos h]

theorem decode_high (bs : ByteArray) (i : Nat) (h : 128 ≤ (bs.get! i).toNat) : 128 ≤ (Utf8.decode bs i).1 := by
  rw [Go.Lib.decode_at]; unfold Go.Lib.decodeN
  rw [if_neg (by omega)]
  repeat' split
  all_goals simp only
  all_goals omega

theorem stepErr_le (o : Nat) (d : Nat × Nat) : stepErr o d ≤ 1 := by unfold stepErr; repeat' split
                                                                     all_goals omega

theorem nextS_ok {bs : ByteArray} {s : SS} (h : s.Ok bs.size) : (nextS bs s).Ok bs.size := by
  unfold nextS
  by_cases hlt : s.off < bs.size
  · rw [if_pos hlt]
    have hd := decode_range bs s.off hlt
    have he := stepErr_le s.off (Utf8.decode bs s.off)
    have := h.row; have := h.col; have := h.errs; have := h.off
    refine ⟨?_, ?_, ?_, ?_, ?_, ?_, ?_, ?_⟩ <;> simp only
    · omega
    · split <;> omega
    · split <;> omega
    · omega
    · omega
    · omega
    · omega
    · omega
  · rw [if_neg hlt]
    have := h.row; have := h.col; have := h.errs; have := h.off; have := h.width; have := h.wo
    refine ⟨?_, ?_, ?_, ?_, ?_, ?_, ?_, ?_⟩ <;> simp only <;> omega

/-- n steps. -/
def iterS (bs : ByteArray) : Nat → SS → SS
  | 0, s => s
  | n + 1, s => nextS bs (iterS bs n s)

theorem iterS_ok {bs : ByteArray} {s : SS} (h : s.Ok bs.size) : ∀ n, (iterS bs n s).Ok bs.size
  | 0 => h
  | n + 1 => nextS_ok (iterS_ok h n)

theorem nextS_off_le {bs : ByteArray} {s : SS} (h : s.Ok bs.size) : s.off ≤ (nextS bs s).off := by
  unfold nextS
  have := h.off
  split <;> simp only <;> omega

theorem iterS_off_le {bs : ByteArray} {s : SS} (h : s.Ok bs.size) : ∀ n, s.off ≤ (iterS bs n s).off
  | 0 => Nat.le_refl _
  | n + 1 => Nat.le_trans (iterS_off_le h n) (nextS_off_le (iterS_ok h n))

theorem iterS_add (bs : ByteArray) (s : SS) (m : Nat) : ∀ n, iterS bs (m + n) s = iterS bs n (iterS bs m s)
  | 0 => rfl
  | n + 1 => by show nextS bs (iterS bs (m + n) s) = _; rw [iterS_add bs s m n]; rfl

def isDecB (c : Int) : Bool := decide (48 ≤ c ∧ c ≤ 57)
def isLetB (c : Int) : Bool := decide ((65 ≤ c ∧ c ≤ 90) ∨ (97 ≤ c ∧ c ≤ 122) ∨ c = 95)
def isIdB (c : Int) : Bool := isLetB c || isDecB c
def isWsB (c : Int) : Bool := decide (c = 32 ∨ c = 9 ∨ c = 10 ∨ c = 13)

end Go.Proofs.YtplljfbbipeakaaDoor
