/- The loops of the scanner as relations on its state. No program in sight. -/
import Derived.Test.YtplljfbbipeakaaDoorSm
namespace Go.Proofs.YtplljfbbipeakaaDoor
open Go

/-- The characters behind a backslash that are taken alone. -/
def isEscB (c : Int) : Bool := decide (c = 92 ∨ c = 34 ∨ c = 47 ∨ c = 98 ∨ c = 102 ∨ c = 110 ∨ c = 114 ∨ c = 116)

/-- One round of scanString that goes on: from s to s1. -/
def StrGo (bs : ByteArray) (s s1 : SS) : Prop :=
  0 ≤ s.curr ∧ s.curr ≠ 10 ∧ s.curr ≠ 34 ∧
  ((s.curr ≠ 92 ∧ s1 = nextS bs s) ∨
   (s.curr = 92 ∧ isEscB (nextS bs s).curr = true ∧ s1 = iterS bs 2 s) ∨
   (s.curr = 92 ∧ (nextS bs s).curr = 117 ∧ s1 = iterS bs 5 s) ∨
   (s.curr = 92 ∧ isEscB (nextS bs s).curr = false ∧ (nextS bs s).curr ≠ 117 ∧ s1 = (nextS bs s).err ∧ s1.Ok bs.size))

/-- The round of scanString that ends it. -/
def StrEnd (bs : ByteArray) (s s1 : SS) : Prop :=
  ((s.curr = 10 ∨ s.curr < 0) ∧ s1 = s.err ∧ s1.Ok bs.size) ∨ (s.curr = 34 ∧ s1 = nextS bs s)

/-- scanString's loop: n rounds that go on, and the one that ends. -/
def StrTo (bs : ByteArray) : Nat → SS → SS → Prop
  | 0, s, s' => StrEnd bs s s'
  | n + 1, s, s' => ∃ s1, StrGo bs s s1 ∧ StrTo bs n s1 s'

/-- One round of scanRawString that goes on. -/
def RawGo (s : SS) : Prop := 0 ≤ s.curr ∧ s.curr ≠ 96
def RawEnd (bs : ByteArray) (s s1 : SS) : Prop :=
  (s.curr < 0 ∧ s1 = (nextS bs s).err ∧ s1.Ok bs.size) ∨ (s.curr = 96 ∧ s1 = nextS bs s)
def RawTo (bs : ByteArray) : Nat → SS → SS → Prop
  | 0, s, s' => RawEnd bs s s'
  | n + 1, s, s' => RawGo s ∧ RawTo bs n (nextS bs s) s'

theorem StrGo.ok {bs : ByteArray} {s s1 : SS} (h : StrGo bs s s1) (hs : s.Ok bs.size) : s1.Ok bs.size := by
  obtain ⟨_, _, _, h⟩ := h
  rcases h with ⟨_, rfl⟩ | ⟨_, _, rfl⟩ | ⟨_, _, rfl⟩ | ⟨_, _, _, _, h⟩
  · exact nextS_ok hs
  · exact iterS_ok hs 2
  · exact iterS_ok hs 5
  · exact h

theorem StrGo.off {bs : ByteArray} {s s1 : SS} (h : StrGo bs s s1) (hs : s.Ok bs.size) : s.off ≤ s1.off := by
  obtain ⟨_, _, _, h⟩ := h
  rcases h with ⟨_, rfl⟩ | ⟨_, _, rfl⟩ | ⟨_, _, rfl⟩ | ⟨_, _, _, rfl, h⟩
  · exact nextS_off_le hs
  · exact iterS_off_le hs 2
  · exact iterS_off_le hs 5
  · exact nextS_off_le hs

theorem StrEnd.off {bs : ByteArray} {s s1 : SS} (h : StrEnd bs s s1) (hs : s.Ok bs.size) : s.off ≤ s1.off := by
  rcases h with ⟨_, rfl, _⟩ | ⟨_, rfl⟩
  · exact Nat.le_refl _
  · exact nextS_off_le hs
theorem StrEnd.ok {bs : ByteArray} {s s1 : SS} (h : StrEnd bs s s1) (hs : s.Ok bs.size) : s1.Ok bs.size := by
  rcases h with ⟨_, _, h⟩ | ⟨_, rfl⟩
  · exact h
  · exact nextS_ok hs

theorem StrTo.off {bs : ByteArray} : ∀ {n : Nat} {s s' : SS}, StrTo bs n s s' → s.Ok bs.size → s.off ≤ s'.off
  | 0, _, _, h, hs => StrEnd.off h hs
  | _ + 1, _, _, ⟨_, h1, h2⟩, hs => Nat.le_trans (h1.off hs) (StrTo.off h2 (h1.ok hs))
theorem StrTo.ok {bs : ByteArray} : ∀ {n : Nat} {s s' : SS}, StrTo bs n s s' → s.Ok bs.size → s'.Ok bs.size
  | 0, _, _, h, hs => StrEnd.ok h hs
  | _ + 1, _, _, ⟨_, h1, h2⟩, hs => StrTo.ok h2 (h1.ok hs)

theorem RawEnd.ok {bs : ByteArray} {s s1 : SS} (h : RawEnd bs s s1) (hs : s.Ok bs.size) : s1.Ok bs.size := by
  rcases h with ⟨_, _, h⟩ | ⟨_, rfl⟩
  · exact h
  · exact nextS_ok hs
theorem RawEnd.off {bs : ByteArray} {s s1 : SS} (h : RawEnd bs s s1) (hs : s.Ok bs.size) : s.off ≤ s1.off := by
  rcases h with ⟨_, rfl, _⟩ | ⟨_, rfl⟩
  · exact nextS_off_le hs
  · exact nextS_off_le hs
theorem RawTo.ok {bs : ByteArray} : ∀ {n : Nat} {s s' : SS}, RawTo bs n s s' → s.Ok bs.size → s'.Ok bs.size
  | 0, _, _, h, hs => RawEnd.ok h hs
  | _ + 1, _, _, ⟨_, h2⟩, hs => RawTo.ok h2 (nextS_ok hs)
theorem RawTo.off {bs : ByteArray} : ∀ {n : Nat} {s s' : SS}, RawTo bs n s s' → s.Ok bs.size → s.off ≤ s'.off
  | 0, _, _, h, hs => RawEnd.off h hs
  | _ + 1, _, _, ⟨_, h2⟩, hs => Nat.le_trans (nextS_off_le hs) (RawTo.off h2 (nextS_ok hs))

end Go.Proofs.YtplljfbbipeakaaDoor
