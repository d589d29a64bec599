/- The small functions of the scanner, walked once: isLetter, lower, isDecimal, isWhitespace, literalStart. -/
import Derived.Test.YtplljfbbipeakaaDoorProg
import Derived.Test.YtplljfbbipeakaaDoorSm
import Derived.WalkKit
import Derived.WalkSpells
import Derived.WalkLawsBesides
import Derived.Lib.Hide
import Derived.Handy
namespace Go.Proofs.YtplljfbbipeakaaDoor
open Go.RowKit

theorem ret_bool {a b : Bool} (h : a = b) : Ending.returned (.bool a) = .returned (.bool b) := by rw [h]
theorem ret_int {k : IntKind} {a b : Int} (h : a = b) : Ending.returned (.int k a) = .returned (.int k b) := by rw [h]

def lowI (c : Int) : Int := bits BinOp.or .i32 32 c

theorem isDec_yes {c : Int} (h : 48 ≤ c) (h' : c ≤ 57) : isDecB c = true := by simp [isDecB, h, h']
theorem isDec_lo {c : Int} (h : c < 48) : isDecB c = false := by simp [isDecB]; omega
theorem isDec_hi {c : Int} (h : 57 < c) : isDecB c = false := by simp [isDecB]; omega

set_option maxHeartbeats 400000 in
theorem isDecimal_any (c : Int) (w : World) :
    Calls Tryd.prog 67 #[.int .i32 c] w fun e w' => e = .returned (.bool (isDecB c)) ∧ w = w' := by
  by_cases h : 48 ≤ c
  · by_cases h' : c ≤ 57
    · go_enter Tryd.func67, Tryd.ntmps67
      go_wp2
      go_ret
      exact ⟨ret_bool (by simp [isDecB, h, h']), rfl⟩
    · go_enter Tryd.func67, Tryd.ntmps67
      go_wp2
      go_ret
      exact ⟨ret_bool (by simp [isDecB, h, h']), rfl⟩
  · go_enter Tryd.func67, Tryd.ntmps67
    go_wp2
    go_ret
    exact ⟨ret_bool (by simp [isDecB]; omega), rfl⟩

set_option maxHeartbeats 400000 in
theorem lower_any (c : Int) (w : World) :
    Calls Tryd.prog 83 #[.int .i32 c] w fun e w' => e = .returned (.int .i32 (lowI c)) ∧ w = w' := by
  go_enter Tryd.func83, Tryd.ntmps83
  go_wp2
  go_ret
  exact ⟨rfl, rfl⟩

theorem or32_small : ∀ r : Fin 64, (32 ||| r.val) = if r.val / 32 % 2 = 1 then r.val else r.val + 32 := by decide

theorem or32 (n : Nat) : (32 ||| n) = if n / 32 % 2 = 1 then n else n + 32 := by
  have h : n = (64 * (n / 64)) ||| (n % 64) := by
    rw [nat_join 6 _ _ (by omega) (by omega)]; omega
  have h2 : (32 ||| n) = (64 * (n / 64)) ||| (32 ||| n % 64) := by
    rw [show (32 ||| n) = (32 ||| ((64 * (n / 64)) ||| (n % 64))) from by rw [← h]]
    rw [← Nat.or_assoc, ← Nat.or_assoc, Nat.or_comm 32 (64 * (n / 64))]
  have h3 := or32_small ⟨n % 64, by omega⟩
  simp only at h3
  rw [h2, h3]
  split
  · rw [nat_join 6 _ _ (by omega) (by omega), if_pos (by omega)]; omega
  · rw [nat_join 6 _ _ (by omega) (by omega), if_neg (by omega)]; omega

theorem lowI_nat (n : Nat) (h : n ≤ 1114111) : lowI (n : Int) = if n / 32 % 2 = 1 then (n : Int) else (n : Int) + 32 := by
  have e : (BitVec.ofInt 32 (32 : Int) ||| BitVec.ofInt 32 (n : Int)).toNat = 32 ||| n := by
    rw [BitVec.toNat_or, ofInt_u32 n (by omega)]; rfl
  have e' : lowI (n : Int) = IntKind.i32.wrap ((32 ||| n : Nat) : Int) := congrArg (fun k : Nat => IntKind.i32.wrap (k : Int)) e
  rw [e', or32, IntKind.wrap_i32]
  split <;> omega

theorem low_let (c : Int) (h0 : -1 ≤ c) (h1 : c ≤ 1114111) : (97 ≤ lowI c ∧ lowI c ≤ 122) ↔ ((65 ≤ c ∧ c ≤ 90) ∨ (97 ≤ c ∧ c ≤ 122)) := by
  by_cases hc : c = -1
  · subst hc; decide
  · obtain ⟨n, rfl⟩ := Int.eq_ofNat_of_zero_le (show 0 ≤ c by omega)
    rw [lowI_nat n (by omega)]
    split <;> omega

theorem low_e (c : Int) (h0 : -1 ≤ c) (h1 : c ≤ 1114111) : lowI c = 101 ↔ (c = 69 ∨ c = 101) := by
  by_cases hc : c = -1
  · subst hc; decide
  · obtain ⟨n, rfl⟩ := Int.eq_ofNat_of_zero_le (show 0 ≤ c by omega)
    rw [lowI_nat n (by omega)]
    split <;> omega

set_option maxHeartbeats 400000 in
theorem isLetter_any (c : Int) (w : World) (h0 : -1 ≤ c) (h1 : c ≤ 1114111) :
    Calls Tryd.prog 65 #[.int .i32 c] w fun e w' => e = .returned (.bool (isLetB c)) ∧ w = w' := by
  have H := low_let c h0 h1
  by_cases h : 97 ≤ lowI c
  · by_cases h' : lowI c ≤ 122
    · have hb : Hid (isLetB c = true) := decide_eq_true (by omega)
      clear H
      go_enter Tryd.func65, Tryd.ntmps65
      go_wp2_with (go_at_call 83; refine (lower_any _ _).mono ?_; rintro e w' ⟨rfl, rfl⟩)
      go_ret
      rw [hb.out]
      exact ⟨rfl, rfl⟩
    · by_cases h3 : c = 95
      · have hb : Hid (isLetB c = true) := decide_eq_true (by omega)
        have h3' : (c == 95) = true := by simp [h3]
        clear h3 H
        go_enter Tryd.func65, Tryd.ntmps65
        go_wp2_with (go_at_call 83; refine (lower_any _ _).mono ?_; rintro e w' ⟨rfl, rfl⟩)
        go_ret
        rw [hb.out]
        exact ⟨rfl, rfl⟩
      · have hb : Hid (isLetB c = false) := decide_eq_false (by omega)
        have h3' : (c == 95) = false := by simp [h3]
        have h4 : decide (lowI c ≤ 122) = false := by simp; omega
        clear H
        go_enter Tryd.func65, Tryd.ntmps65
        go_wp2_with (go_at_call 83; refine (lower_any _ _).mono ?_; rintro e w' ⟨rfl, rfl⟩)
        go_ret
        rw [hb.out]
        exact ⟨rfl, rfl⟩
  · by_cases h3 : c = 95
    · have hb : Hid (isLetB c = true) := decide_eq_true (by omega)
      have h3' : (c == 95) = true := by simp [h3]
      clear h3 H
      go_enter Tryd.func65, Tryd.ntmps65
      go_wp2_with (go_at_call 83; refine (lower_any _ _).mono ?_; rintro e w' ⟨rfl, rfl⟩)
      go_ret
      rw [hb.out]
      exact ⟨rfl, rfl⟩
    · have hb : Hid (isLetB c = false) := decide_eq_false (by omega)
      have h3' : (c == 95) = false := by simp [h3]
      clear H
      go_enter Tryd.func65, Tryd.ntmps65
      go_wp2_with (go_at_call 83; refine (lower_any _ _).mono ?_; rintro e w' ⟨rfl, rfl⟩)
      go_ret
      rw [hb.out]
      exact ⟨rfl, rfl⟩

set_option maxHeartbeats 400000 in
/-- isDigit where no table is asked: below 128. -/
theorem isDigit_ascii (c : Int) (w : World) (h1 : c < 128) :
    Calls Tryd.prog 84 #[.int .i32 c] w fun e w' => e = .returned (.bool (isDecB c)) ∧ w = w' := by
  by_cases h : isDecB c = true
  · go_enter Tryd.func84, Tryd.ntmps84
    go_wp2_with (go_at_call 67; refine (isDecimal_any _ _).mono ?_; rintro e w' ⟨rfl, rfl⟩)
    go_ret
    exact ⟨ret_bool (by simp [h]), rfl⟩
  · have h' : isDecB c = false := by simpa using h
    clear h
    go_enter Tryd.func84, Tryd.ntmps84
    go_wp2_with (go_at_call 67; refine (isDecimal_any _ _).mono ?_; rintro e w' ⟨rfl, rfl⟩)
    go_ret
    exact ⟨ret_bool (by simp), rfl⟩

end Go.Proofs.YtplljfbbipeakaaDoor
