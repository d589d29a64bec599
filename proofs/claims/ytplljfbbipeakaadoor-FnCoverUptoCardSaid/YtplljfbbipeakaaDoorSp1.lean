/- spec.letter, spec.number, walked; what they write. spec.text, spec.comment, walked. spec.text, walked. laws.zzFits2; spec.Write of a string in quotes or backquotes, walked. -/
import Derived.Test.YtplljfbbipeakaaDoorLeaf
import Derived.Deep.LoopGhost
import Derived.Deep.QuietTactic
import Derived.BigQuiet
import Derived.Outline
import Derived.Test.YtplljfbbipeakaaDoorPl1
import Derived.Lib.OthersKept
import Derived.WalkSmall
import Derived.RegionTactic
import Derived.Test.YtplljfbbipeakaaDoorMem
import Derived.Test.YtplljfbbipeakaaDoorPl2
namespace Go.Proofs.YtplljfbbipeakaaDoor
open Go Go.RowKit

def letB (c : Int) (inside : Bool) : Bool := isLetB c || (inside && isDecB c)

set_option maxHeartbeats 1000000 in
theorem letter_any (c : Int) (b : Bool) (w : World) (h0 : 0 ≤ c) (h1 : c ≤ 255) :
    Calls Tryd.prog 48 #[.int .u8 c, .bool b] w fun e w' => e = .returned (.bool (letB c b)) ∧ w = w' := by
  have hc : c < 48 ∨ (48 ≤ c ∧ c ≤ 57) ∨ (57 < c ∧ c < 65) ∨ (65 ≤ c ∧ c ≤ 90) ∨ (90 < c ∧ c < 95) ∨ c = 95 ∨ c = 96 ∨ (97 ≤ c ∧ c ≤ 122) ∨ 122 < c := by omega
  have hl : ∃ p, isLetB c = p ∧ decide ((65 ≤ c ∧ c ≤ 90) ∨ (97 ≤ c ∧ c ≤ 122) ∨ c = 95) = p := ⟨_, rfl, rfl⟩
  have hd : ∃ p, isDecB c = p ∧ decide (48 ≤ c ∧ c ≤ 57) = p := ⟨_, rfl, rfl⟩
  obtain ⟨p, hl1, hl2⟩ := hl
  obtain ⟨q, hd1, hd2⟩ := hd
  have e : letB c b = (p || (b && q)) := by unfold letB; rw [hl1, hd1]
  have E := Lib.hid e
  clear e hl1 hd1
  rcases hc with h | ⟨h, h'⟩ | ⟨h, h'⟩ | ⟨h, h'⟩ | ⟨h, h'⟩ | rfl | rfl | ⟨h, h'⟩ | h
  all_goals first | (rw [decide_eq_true (by omega)] at hl2) | (rw [decide_eq_false (by omega)] at hl2)
  all_goals first | (rw [decide_eq_true (by omega)] at hd2) | (rw [decide_eq_false (by omega)] at hd2)
  all_goals try (have h95 : (c == 95) = false := by simp; omega)
  all_goals
    subst hl2 hd2
    cases b
    all_goals
      go_enter Tryd.func48, Tryd.ntmps48
      go_wp2
      go_ret
      refine ⟨?_, rfl⟩
      rw [E.out]
      first | rfl | exact ret_bool (by simp; omega)

/-! numbers -/
def digStep (out : List UInt8) (c : UInt8) : List UInt8 := if (48 ≤ c.toNat ∧ c.toNat ≤ 57) ∧ out.length < 9 then out ++ [c] else out
def digL (s : List UInt8) : List UInt8 := s.foldl digStep []
def digN (s : List UInt8) : List UInt8 := if digL s = [] then [55] else digL s
def stripZ : List UInt8 → List UInt8
  | c :: d :: t => if c = 48 then stripZ (d :: t) else c :: d :: t
  | l => l
def numL (n : Nat) (s : List UInt8) : List UInt8 :=
  if n % 4 = 1 then stripZ (digN s) ++ [46] ++ digN s
  else if n % 4 = 2 then stripZ (digN s) ++ [101, 45] ++ digN s
  else if n % 4 = 3 then stripZ (digN s) ++ [46] ++ digN s ++ [69, 43] ++ digN s
  else stripZ (digN s)

theorem digStep_le (out : List UInt8) (c : UInt8) (h : out.length ≤ 9) : (digStep out c).length ≤ 9 := by
  unfold digStep; split
  · rw [List.length_append, List.length_singleton]; omega
  · exact h
theorem foldl_dig_le : ∀ (s out : List UInt8), out.length ≤ 9 → (s.foldl digStep out).length ≤ 9
  | [], _, h => h
  | c :: s, out, h => foldl_dig_le s _ (digStep_le out c h)
theorem digL_le (s : List UInt8) : (digL s).length ≤ 9 := foldl_dig_le s [] (by simp)
theorem foldl_snoc {β : Type} (f : β → UInt8 → β) (b : β) (s : ByteArray) (k : Nat) (h : k < s.size) : (s.data.toList.take (k + 1)).foldl f b = f ((s.data.toList.take k).foldl f b) s[k] := by
  rw [List.take_succ_eq_append_getElem (by simpa using h), List.foldl_append]; rfl

theorem app_ba (a b : List UInt8) : (⟨a.toArray⟩ : ByteArray) ++ ⟨b.toArray⟩ = ⟨(a ++ b).toArray⟩ := by
  apply ByteArray.ext; simp
theorem ext_one (s : ByteArray) (k : Nat) (h : k < s.size) : s.extract k (k + 1) = ⟨[s[k]].toArray⟩ := by
  apply ByteArray.ext
  rw [ByteArray.data_extract]
  apply Array.ext
  · simp; have : s.data.size = s.size := rfl; omega
  · intro i h1 h2
    simp at h2
    subst h2
    simp
    rfl

theorem ret_str {a b : ByteArray} (h : a = b) : Ending.returned (.string a) = .returned (.string b) := by rw [h]
theorem ba_list (X : ByteArray) : X = ⟨X.data.toList.toArray⟩ := by cases X; simp
theorem strip_one (X : ByteArray) (h : X.size ≤ 1) : stripZ X.data.toList = X.data.toList := by
  have hl : X.data.toList.length ≤ 1 := by rw [Array.length_toList]; exact h
  generalize X.data.toList = l at *
  match l with
  | [] => rfl
  | [_] => rfl
  | _ :: _ :: _ => simp at hl
theorem cons_of (X : ByteArray) (h : 1 < X.size) : ∃ d t, X.data.toList = X[0] :: d :: t ∧ (X.extract 1 X.size).data.toList = d :: t := by
  have hl : 1 < X.data.toList.length := by rw [Array.length_toList]; exact h
  have h0 : X.data.toList[0]? = some X[0] := by rw [List.getElem?_eq_getElem (by omega), Array.getElem_toList]; rfl
  have he : (X.extract 1 X.size).data.toList = X.data.toList.drop 1 := by
    rw [ByteArray.data_extract, Array.toList_extract]
    show List.take (X.size - 1) (List.drop 1 X.data.toList) = _
    rw [List.take_of_length_le]
    rw [List.length_drop, Array.length_toList]
    exact Nat.le_refl _
  rw [he]
  revert h0 hl
  generalize X.data.toList = l
  intro hl h0
  match l with
  | [] => simp at hl
  | [_] => simp at hl
  | c :: d :: t => exact ⟨d, t, by cases h0; rfl, rfl⟩
theorem strip_go (X : ByteArray) (h : 1 < X.size) (h0 : X[0] = 48) : stripZ (X.extract 1 X.size).data.toList = stripZ X.data.toList := by
  obtain ⟨d, t, e1, e2⟩ := cons_of X h
  rw [e2, e1, h0]; rfl
theorem strip_stop (X : ByteArray) (h : 1 < X.size) (h0 : X[0] ≠ 48) : stripZ X.data.toList = X.data.toList := by
  obtain ⟨d, t, e1, e2⟩ := cons_of X h
  rw [e1]; simp [stripZ, h0]

theorem num_ends {n : Nat} {s DD : List UInt8} {X : ByteArray} (h1 : DD = digN s) (h2 : stripZ X.data.toList = stripZ DD) (h3 : stripZ X.data.toList = X.data.toList) :
    (((n : Int) % 4 == 1) = true → X ++ ⟨#[46]⟩ ++ ⟨DD.toArray⟩ = ⟨(numL n s).toArray⟩) ∧
    (((n : Int) % 4 == 2) = true → X ++ ⟨#[101, 45]⟩ ++ ⟨DD.toArray⟩ = ⟨(numL n s).toArray⟩) ∧
    (((n : Int) % 4 == 3) = true → X ++ ⟨#[46]⟩ ++ ⟨DD.toArray⟩ ++ ⟨#[69, 43]⟩ ++ ⟨DD.toArray⟩ = ⟨(numL n s).toArray⟩) ∧
    (((n : Int) % 4 == 1) = false → ((n : Int) % 4 == 2) = false → ((n : Int) % 4 == 3) = false → X = ⟨(numL n s).toArray⟩) := by
  have hX : X = ⟨(stripZ (digN s)).toArray⟩ := by rw [← h1, ← h2, h3]
  rw [hX, h1]
  refine ⟨fun h => ?_, fun h => ?_, fun h => ?_, fun a b c => ?_⟩
  · have h : n % 4 = 1 := by have : (n : Int) % 4 = 1 := by simpa using h
                             omega
    unfold numL; rw [if_pos h]; simp only [app_ba]
  · have h : n % 4 = 2 := by have : (n : Int) % 4 = 2 := by simpa using h
                             omega
    unfold numL; rw [if_neg (by omega), if_pos h]; simp only [app_ba]
  · have h : n % 4 = 3 := by have : (n : Int) % 4 = 3 := by simpa using h
                             omega
    unfold numL; rw [if_neg (by omega), if_neg (by omega), if_pos h]; simp only [app_ba]
  · have a : ¬ n % 4 = 1 := by have : ¬ (n : Int) % 4 = 1 := by simpa using a
                               omega
    have b : ¬ n % 4 = 2 := by have : ¬ (n : Int) % 4 = 2 := by simpa using b
                               omega
    have c : ¬ n % 4 = 3 := by have : ¬ (n : Int) % 4 = 3 := by simpa using c
                               omega
    unfold numL; rw [if_neg a, if_neg b, if_neg c]

set_option maxHeartbeats 2000000 in
set_option maxRecDepth 100000 in
theorem number_walk (n : Nat) (s : ByteArray) (w : World) (hs : s.size ≤ 4294967296) (hn : n ≤ 1000) :
    Calls Tryd.prog 35 #[.int .i64 (n : Int), .string s] w fun e w' => e = .returned (.string ⟨(numL n s.data.toList).toArray⟩) ∧ w = w' := by
  go_enter Tryd.func35, Tryd.ntmps35
  go_wp2
  go_loop [5, 10] (fun o i => ∃ k : Nat, k ≤ s.size ∧ i = .int .i64 k ∧ o = .string ⟨((s.data.toList.take k).foldl digStep []).toArray⟩) (fun _ i => s.size - (intOf i).toNat)
  case atStart => exact ⟨0, Nat.zero_le _, rfl, rfl⟩
  case round =>
    obtain ⟨k, hk, rfl, rfl⟩ := hrel
    have hle := foldl_dig_le (s.data.toList.take k) [] (by simp)
    by_cases hlt : k < s.size
    · have hst := foldl_snoc digStep [] s k hlt
      have hx1 := ext_one s k hlt
      generalize (s.data.toList.take k).foldl digStep [] = out at *
      have HST := Lib.hid hst
      have HX := Lib.hid hx1
      clear hst hx1
      go_wp2
      all_goals
        go_round
        case rel =>
          refine ⟨k + 1, by omega, by go_num, ?_⟩
          rw [HST.out]
          unfold digStep
          first
            | (rw [if_pos ⟨⟨by omega, by omega⟩, by omega⟩, HX.out, app_ba])
            | (rw [if_neg (by omega)])
        case measure => simp [intOf]; omega
    · have hall : s.data.toList.take k = s.data.toList := List.take_of_length_le (by have : s.data.toList.length = s.size := Array.length_toList; omega)
      rw [hall]
      have hlen : (digL s.data.toList).length ≤ 9 := digL_le _
      have hlen' := hlen
      change (List.foldl digStep [] s.data.toList).length ≤ 9 at hlen'
      generalize hD : List.foldl digStep [] s.data.toList = D at *
      have HD := Lib.hid hD
      clear hD
      have hDD : ∃ DD : List UInt8, DD = digN s.data.toList ∧ DD ≠ [] ∧ DD.length ≤ 9 ∧ (D = [] → DD = [55]) ∧ (D ≠ [] → DD = D) := by
        have e : digL s.data.toList = D := HD.out
        refine ⟨_, rfl, ?_, ?_, ?_, ?_⟩ <;> unfold digN <;> rw [e]
        · split
          · simp
          · assumption
        · split
          · simp
          · exact hlen'
        · intro h; rw [if_pos h]
        · intro h; rw [if_neg h]
      obtain ⟨DD, hd1, hd2, hd3, hd4, hd5⟩ := hDD
      have H1 := Lib.hid hd1
      clear hd1 hlen hall hle
      by_cases hE : D = []
      case' pos =>
        have hdd := hd4 hE
        subst hE hdd
        clear hd4 hd5
      case' neg =>
        have hdd := hd5 hE
        subst hdd
        have hemp : DD.isEmpty = false := by cases DD with | nil => exact absurd rfl hd2 | cons _ _ => rfl
        clear hd4 hd5 hE
      all_goals
        go_wp2
        go_loopg [7] ((digN s.data.toList).length - 1) (fun m t wr => ∃ X : ByteArray, t = .string X ∧ X.size = m + 1 ∧ X.size ≤ 9 ∧ Hid (stripZ X.data.toList = stripZ (digN s.data.toList)) ∧ wr = w)
        case atStart => 
          rw [← H1.out]
          exact ⟨_, rfl, by have := List.length_pos_iff.2 hd2; show Array.size (List.toArray _) = _; simp only [List.size_toArray]; omega, by show Array.size (List.toArray _) ≤ _; simp only [List.size_toArray]; exact hd3, Lib.hid rfl, rfl⟩
        case round =>
          obtain ⟨X, rfl, hX, hX9, HX, rfl⟩ := hrel
          cases gk with
          | zero =>
            have HE := Lib.hid (num_ends (n := n) H1.out (HX.out.trans (by rw [← H1.out])) (strip_one X (by omega)))
            go_wp2
            · go_ret; exact ⟨ret_str (HE.out.1 ‹_›), rfl⟩
            · go_ret; exact ⟨ret_str (HE.out.2.1 ‹_›), rfl⟩
            · go_ret; exact ⟨ret_str (HE.out.2.2.1 ‹_›), rfl⟩
            · go_ret; exact ⟨ret_str (HE.out.2.2.2 ‹_› ‹_› ‹_›), rfl⟩
          | succ m =>
            have h1 : 1 < X.size := by omega
            have h1' : (1 : Int) < X.size := by omega
            have h0 : 0 < X.size := by omega
            have HXs := Lib.hid hX
            clear hX
            by_cases h48 : X[0] = 48
            · have t48 : ((X[0].toNat : Int) == 48) = true := by rw [h48]; rfl
              have H48 := Lib.hid h48
              clear h48
              go_wp2
              go_roundg m
              case measure => omega
              case rel => exact ⟨_, rfl, by rw [ByteArray.size_extract, HXs.out]; omega, by rw [ByteArray.size_extract]; omega, Lib.hid ((strip_go X h1 H48.out).trans HX.out), rfl⟩
            · have t48 : ((X[0].toNat : Int) == 48) = false := by
                rw [beq_eq_false_iff_ne]
                intro h
                exact h48 (UInt8.toNat_inj.1 (by have : X[0].toNat = 48 := by omega
                                                 rw [this]; rfl))
              have HE := Lib.hid (num_ends (n := n) H1.out (HX.out.trans (by rw [← H1.out])) (strip_stop X h1 h48))
              clear h48
              go_wp2
              · go_ret; exact ⟨ret_str (HE.out.1 ‹_›), rfl⟩
              · go_ret; exact ⟨ret_str (HE.out.2.1 ‹_›), rfl⟩
              · go_ret; exact ⟨ret_str (HE.out.2.2.1 ‹_›), rfl⟩
              · go_ret; exact ⟨ret_str (HE.out.2.2.2 ‹_› ‹_› ‹_›), rfl⟩

end Go.Proofs.YtplljfbbipeakaaDoor

namespace Go.Proofs.YtplljfbbipeakaaDoor
open Go Go.RowKit

theorem ba_commN {a b : List Nat} (h : BA a = BA b) : BA (35 :: a) = BA (35 :: b) := by
  have e : ∀ l, BA (35 :: l) = BA [35] ++ BA l := fun l => by rw [ba_app]; rfl
  rw [e a, e b, h]
theorem ba_commC {a b : List Nat} {x : ByteArray} (h : BA a ++ x = BA b) : BA (35 :: a) ++ x = BA (35 :: b) := by
  have e : ∀ l, BA (35 :: l) = BA [35] ++ BA l := fun l => by rw [ba_app]; rfl
  rw [e a, e b, ByteArray.append_assoc, h]

/-- Where a loop over a string's runes stands: what has been written for the runes behind it. -/
def RunRel (s : ByteArray) (w : World) (F : List Nat → List Nat) (o : Value) (wr : World) : Prop :=
  ∃ (pos b : Nat) (P : List Nat), wr.heap[w.heap.size]? = some (.stringIter s pos) ∧ Below w.heap.size w wr ∧ o = .string (BA (F P)) ∧ Hid (runesS s = P ++ runesF s b pos) ∧ s.size ≤ pos + b

set_option maxHeartbeats 2000000 in
set_option maxRecDepth 100000 in
theorem comment_walk (s : ByteArray) (w : World) (hs : s.size ≤ 4294967296) :
    Calls Tryd.prog 37 #[.string s] w fun e w' => e = .returned (.string (BA (35 :: commL s))) ∧ Below w.heap.size w w' := by
  go_enter Tryd.func37, Tryd.ntmps37
  go_wp2
  go_loopw [3] (fun o wr => RunRel s w (fun P => 35 :: P.flatMap commR) o wr) (fun _ wr => s.size - wr.iterPos w.heap.size)
  case atStart => exact ⟨0, s.size, [], World.iter_heap w s 0, (Below.refl _ _).alloc (Nat.le_refl _) _, rfl, Lib.hid rfl, by omega⟩
  case round =>
    obtain ⟨pos, b, P, hi, hb, rfl, HR, hle⟩ := hrel
    by_cases hp : pos < s.size
    · have hok := decode_ok s pos
      have hrg := decode_range s pos hp
      have hnx := fun ty => Lib.run_next_any_at (P := Tryd.prog) wr w.heap.size s pos ty hi hp
      have hrn : Hid (runesS s = (P ++ [(Utf8.decode s pos).1]) ++ runesF s (b - 1) (pos + (Utf8.decode s pos).2)) := by
        have := HR.out
        obtain ⟨b', rfl⟩ : ∃ b', b = b' + 1 := ⟨b - 1, by omega⟩
        rw [runesF_step s b' pos hp] at this
        exact Lib.hid (by rw [this]; simp)
      have hi2 := Lib.iterAt_heap wr w.heap.size s pos (pos + (Utf8.decode s pos).2) hi
      have hb2 := Lib.below_iterAt hb (Nat.le_refl _) s (pos + (Utf8.decode s pos).2)
      have HI2 := Lib.hid hi2
      have HB2 := Lib.hid hb2
      have HI := Lib.hid hi
      have HOK := Lib.hid hok
      have hPl := runes_pre hrn.out
      rw [List.length_append, List.length_singleton] at hPl
      generalize hr : (Utf8.decode s pos).1 = r at *
      generalize hwd : (Utf8.decode s pos).2 = wd at *
      clear hi2 hb2 hr hwd HR hb hi hok
      by_cases h32 : (r : Int) < 32
      · go_wp2
        go_roundw
        case rel => exact ⟨_, b - 1, P ++ [r], HI2.out, HB2.out, congrArg Value.string (ba_commN (ba_comm0 (by unfold commR; rw [if_neg (by omega)]))), hrn, by omega⟩
        case measure => rw [iterPos_of HI2.out, iterPos_of HI.out]; omega
      · have h32' : 32 ≤ (r : Int) := by omega
        by_cases h3 : r = 65533
        · have e3 : (!((r : Int) == 65533)) = false := by simp; omega
          have e3' : ((r : Int) != 65533) = false := by simp; omega
          have H3 := Lib.hid h3
          clear h3
          go_wp2
          go_roundw
          case rel => exact ⟨_, b - 1, P ++ [r], HI2.out, HB2.out, congrArg Value.string (ba_commN (ba_comm0 (by have := H3.out; unfold commR; rw [if_neg (by omega)]))), hrn, by omega⟩
          case measure => rw [iterPos_of HI2.out, iterPos_of HI.out]; omega
        · have e3 : ((r : Int) == 65533) = false := by simp; omega
          have e3' : ((r : Int) != 65533) = true := by simp; omega
          have H3 := Lib.hid h3
          clear h3
          by_cases h4 : r = 65279
          · have e4 : (!((r : Int) == 65279)) = false := by simp; omega
            have e4' : ((r : Int) != 65279) = false := by simp; omega
            have H4 := Lib.hid h4
            clear h4
            go_wp2
            go_roundw
            case rel => exact ⟨_, b - 1, P ++ [r], HI2.out, HB2.out, congrArg Value.string (ba_commN (ba_comm0 (by have := H4.out; unfold commR; rw [if_neg (by omega)]))), hrn, by omega⟩
            case measure => rw [iterPos_of HI2.out, iterPos_of HI.out]; omega
          · have e4 : ((r : Int) == 65279) = false := by simp; omega
            have e4' : ((r : Int) != 65279) = true := by simp; omega
            have H4 := Lib.hid h4
            clear h4 h32
            obtain ⟨c, hc⟩ : ∃ c : Int, (r : Int) = c := ⟨_, rfl⟩
            have HC := Lib.hid hc
            have hsz : (BA (35 :: List.flatMap commR P)).size + (Utf8.encode (r : Int)).size ≤ 9223372036854775807 := by
              have h1 := ba_size_le (35 :: List.flatMap commR P)
              have h2 := flat_le commR_le P
              have h3 := encode_le r HOK.out
              rw [List.length_cons] at h1
              omega
            rw [hc] at hnx h32' e3 e3' e4 e4' hsz
            clear hc
            go_wp2
            go_roundw
            case rel =>
              refine ⟨_, b - 1, P ++ [r], HI2.out, HB2.out, congrArg Value.string ?_, hrn, by omega⟩
              have := H4.out
              have := H3.out
              have h32 : 32 ≤ (r : Int) := by rw [HC.out]; exact h32'
              rw [← HC.out, ba_enc r HOK.out]
              exact ba_commC (ba_comm1 (by unfold commR; rw [if_pos (by omega)]))
            case measure => rw [iterPos_of HI2.out, iterPos_of HI.out]; omega
    · have hnx := fun ty => Lib.run_next_end_at (P := Tryd.prog) wr w.heap.size s pos ty hi hp
      have hall : P = runesS s := by rw [HR.out, runesF_end s b pos hp, List.append_nil]
      have HB := Lib.hid hb
      have HALL := Lib.hid hall
      clear hi hb HR hall
      go_wp2
      go_ret
      exact ⟨ret_str (by rw [HALL.out]; rfl), HB.out⟩

end Go.Proofs.YtplljfbbipeakaaDoor

namespace Go.Proofs.YtplljfbbipeakaaDoor
open Go Go.RowKit

theorem and15 (m : Nat) (h : m < 1114112) : bits BinOp.and .i32 (m : Int) 15 = ((m % 16 : Nat) : Int) := by
  have e : (BitVec.ofInt 32 (m : Int) &&& BitVec.ofInt 32 (15 : Int)).toNat = m % 16 := by
    rw [BitVec.toNat_and, ofInt_u32 m (by omega)]
    exact Nat.and_two_pow_sub_one_eq_mod m 4
  have e' : bits BinOp.and .i32 (m : Int) 15 = IntKind.i32.wrap ((m % 16 : Nat) : Int) := congrArg (fun k : Nat => IntKind.i32.wrap (k : Int)) e
  rw [e', IntKind.wrap_i32]
  omega

theorem two_cv (W : World) (a b : UInt8) : (convert 81 9 (.slice (some ⟨W.heap.size, 0, none⟩) 2 2)).run Tryd.prog (W.alloc (.cells #[.int .u8 a.toNat, .int .u8 b.toNat] 5)).drew =
    .ok (.string ⟨#[a, b]⟩) (W.alloc (.cells #[.int .u8 a.toNat, .int .u8 b.toNat] 5)).drew := by
  refine run_convert_bytes_back (P := Tryd.prog) _ 81 9 5 ⟨W.heap.size, 0, none⟩ 2 [a, b] Tryd.underlying81 Tryd.underlying5 Tryd.underlying9 (fun j hj => ?_)
  have hb : (W.alloc (.cells #[.int .u8 a.toNat, .int .u8 b.toNat] 5)).drew.heap[W.heap.size]? = some (.cells #[.int .u8 a.toNat, .int .u8 b.toNat] 5) := heap_alloc_new W _
  have ha : (⟨W.heap.size, 0, none⟩ : Addr).add j = ⟨W.heap.size, j, none⟩ := by
    unfold Addr.add; split
    · subst_vars; rfl
    · simp
  rw [ha]
  match j, hj with
  | 0, _ => exact cell_row hb 0 _ rfl
  | 1, _ => exact cell_row hb 1 _ rfl

theorem meas_lt {W W' : World} {k p p' : Nat} {s : ByteArray} (h' : W'.heap[k]? = some (.stringIter s p')) (h : W.heap[k]? = some (.stringIter s p)) (hlt : s.size - p' < s.size - p) : s.size - W'.iterPos k < s.size - W.iterPos k := by
  rw [iterPos_of h', iterPos_of h]; exact hlt

theorem hex_at (d : Nat) (h : d < 16) : (⟨#[48, 49, 50, 51, 52, 53, 54, 55, 56, 57, 97, 98, 99, 100, 101, 102]⟩ : ByteArray)[d]'h = UInt8.ofNat (hexD d) := by
  have : ∀ d : Fin 16, (⟨#[48, 49, 50, 51, 52, 53, 54, 55, 56, 57, 97, 98, 99, 100, 101, 102]⟩ : ByteArray)[d.val]'d.isLt = UInt8.ofNat (hexD d.val) := by decide
  exact this ⟨d, h⟩
theorem hex_ba (d1 d2 : Nat) (h1 : d1 < 16) (h2 : d2 < 16) : (⟨#[92, 117, 48, 48]⟩ : ByteArray) ++ ⟨#[(⟨#[48, 49, 50, 51, 52, 53, 54, 55, 56, 57, 97, 98, 99, 100, 101, 102]⟩ : ByteArray)[d1]'h1, (⟨#[48, 49, 50, 51, 52, 53, 54, 55, 56, 57, 97, 98, 99, 100, 101, 102]⟩ : ByteArray)[d2]'h2]⟩ =
    BA [92, 117, 48, 48, hexD d1, hexD d2] := by
  have a1 : hexD d1 < 128 := by unfold hexD; split <;> omega
  have a2 : hexD d2 < 128 := by unfold hexD; split <;> omega
  rw [hex_at d1 h1, hex_at d2 h2]
  have e : BA [92, 117, 48, 48, hexD d1, hexD d2] = BA [92, 117, 48, 48] ++ (BA [hexD d1] ++ BA [hexD d2]) := by rw [ba_app, ba_app]; rfl
  rw [e, ba_one a1, ba_one a2]
  rfl

theorem text_sz {P : List Nat} {raw : Bool} {r k : Nat} (h : okR r) (hk : k ≤ 100) (hP : P.length ≤ 4294967296) : (BA (P.flatMap (textR raw))).size + ((Utf8.encode (r : Int)).size + k) ≤ 9223372036854775807 := by
  have h1 := ba_size_le (P.flatMap (textR raw))
  have h2 := flat_le (textR_le raw) P
  have h3 := encode_le r h
  omega
theorem text_sz0 {P : List Nat} {raw : Bool} {k : Nat} (hk : k ≤ 100) (hP : P.length ≤ 4294967296) : (BA (P.flatMap (textR raw))).size + k ≤ 9223372036854775807 := by
  have h1 := ba_size_le (P.flatMap (textR raw))
  have h2 := flat_le (textR_le raw) P
  omega

set_option maxHeartbeats 4000000 in
set_option maxRecDepth 100000 in
theorem text_raw (n : Nat) (s : ByteArray) (w : World) (hs : s.size ≤ 2147483648) (hn : n ≤ 1000) (hr : n % 2 = 1) :
    Calls Tryd.prog 36 #[.int .i64 (n : Int), .string s] w fun e w' => e = .returned (.string (BA (96 :: (textL true s ++ [96])))) ∧ Below w.heap.size w w' := by
  have hpar : ((n : Int) % 2 == 0) = false := by simp; omega
  have hpar' : ((n : Int) % 2 != 0) = true := by simp; omega
  clear hr
  go_enter Tryd.func36, Tryd.ntmps36
  go_wp2
  go_loopw [5] (fun o wr => RunRel s w (fun P => P.flatMap (textR true)) o wr) (fun _ wr => s.size - wr.iterPos w.heap.size)
  case atStart => exact ⟨0, s.size, [], World.iter_heap w s 0, (Below.refl _ _).alloc (Nat.le_refl _) _, rfl, Lib.hid rfl, by omega⟩
  case round =>
    obtain ⟨pos, b, P, hi, hb, rfl, HR, hle⟩ := hrel
    by_cases hp : pos < s.size
    · have hok := decode_ok s pos
      have hrg := decode_range s pos hp
      have hnx := fun ty => Lib.run_next_any_at (P := Tryd.prog) wr w.heap.size s pos ty hi hp
      have hrn : Hid (runesS s = (P ++ [(Utf8.decode s pos).1]) ++ runesF s (b - 1) (pos + (Utf8.decode s pos).2)) := by
        have := HR.out
        obtain ⟨b', rfl⟩ : ∃ b', b = b' + 1 := ⟨b - 1, by omega⟩
        rw [runesF_step s b' pos hp] at this
        exact Lib.hid (by rw [this]; simp)
      have hi2 := Lib.iterAt_heap wr w.heap.size s pos (pos + (Utf8.decode s pos).2) hi
      have hb2 := Lib.below_iterAt hb (Nat.le_refl _) s (pos + (Utf8.decode s pos).2)
      have HI2 := Lib.hid hi2
      have HB2 := Lib.hid hb2
      have HI := Lib.hid hi
      have hwz : w.heap.size ≤ wr.heap.size := hb.size
      have HOK := Lib.hid hok
      have hPl := runes_pre hrn.out
      rw [List.length_append, List.length_singleton] at hPl
      have hsz := text_sz (P := P) (raw := true) hok (k := 10) (by omega) (by omega)
      have hez := encode_le _ hok
      generalize hr : (Utf8.decode s pos).1 = r at *
      generalize hwd : (Utf8.decode s pos).2 = wd at *
      clear hi2 hb2 hr hwd HR hb hi hok
      by_cases hq : r = 0
      · have e0 : ((r : Int) == 0) = true := by simp; omega
        have HT : Hid (textR true r = []) := Lib.hid (by unfold textR; rw [if_pos (by simp; omega)])
        obtain ⟨c, hc⟩ : ∃ c : Int, (r : Int) = c := ⟨_, rfl⟩
        have HC := Lib.hid hc
        rw [hc] at hnx e0
        have HQ := Lib.hid hq
        clear hc hez hsz hq
        go_wp2
        go_roundw
        case rel => exact ⟨_, b - 1, P ++ [r], HI2.out, HB2.out, congrArg Value.string (ba_text0 HT.out), hrn, by omega⟩
        case measure => rw [iterPos_of HI2.out, iterPos_of HI.out]; omega
      by_cases hq : r = 65533
      · have e0 : ((r : Int) == 0) = false := by simp; omega
        have e65533 : ((r : Int) == 65533) = true := by simp; omega
        have HT : Hid (textR true r = []) := Lib.hid (by unfold textR; rw [if_pos (by simp; omega)])
        obtain ⟨c, hc⟩ : ∃ c : Int, (r : Int) = c := ⟨_, rfl⟩
        have HC := Lib.hid hc
        rw [hc] at hnx e0 e65533
        have HQ := Lib.hid hq
        clear hc hez hsz hq
        go_wp2
        go_roundw
        case rel => exact ⟨_, b - 1, P ++ [r], HI2.out, HB2.out, congrArg Value.string (ba_text0 HT.out), hrn, by omega⟩
        case measure => rw [iterPos_of HI2.out, iterPos_of HI.out]; omega
      by_cases hq : r = 65279
      · have e0 : ((r : Int) == 0) = false := by simp; omega
        have e65533 : ((r : Int) == 65533) = false := by simp; omega
        have e65279 : ((r : Int) == 65279) = true := by simp; omega
        have HT : Hid (textR true r = []) := Lib.hid (by unfold textR; rw [if_pos (by simp; omega)])
        obtain ⟨c, hc⟩ : ∃ c : Int, (r : Int) = c := ⟨_, rfl⟩
        have HC := Lib.hid hc
        rw [hc] at hnx e0 e65533 e65279
        have HQ := Lib.hid hq
        clear hc hez hsz hq
        go_wp2
        go_roundw
        case rel => exact ⟨_, b - 1, P ++ [r], HI2.out, HB2.out, congrArg Value.string (ba_text0 HT.out), hrn, by omega⟩
        case measure => rw [iterPos_of HI2.out, iterPos_of HI.out]; omega
      by_cases hq : r = 96
      · have e0 : ((r : Int) == 0) = false := by simp; omega
        have e65533 : ((r : Int) == 65533) = false := by simp; omega
        have e65279 : ((r : Int) == 65279) = false := by simp; omega
        have e96 : ((r : Int) == 96) = true := by simp; omega
        have HT : Hid (textR true r = []) := Lib.hid (by unfold textR; rw [if_pos (by simp; omega)])
        obtain ⟨c, hc⟩ : ∃ c : Int, (r : Int) = c := ⟨_, rfl⟩
        have HC := Lib.hid hc
        rw [hc] at hnx e0 e65533 e65279 e96
        have HQ := Lib.hid hq
        clear hc hez hsz hq
        go_wp2
        go_roundw
        case rel => exact ⟨_, b - 1, P ++ [r], HI2.out, HB2.out, congrArg Value.string (ba_text0 HT.out), hrn, by omega⟩
        case measure => rw [iterPos_of HI2.out, iterPos_of HI.out]; omega
      by_cases hq : r = 13
      · have e0 : ((r : Int) == 0) = false := by simp; omega
        have e65533 : ((r : Int) == 65533) = false := by simp; omega
        have e65279 : ((r : Int) == 65279) = false := by simp; omega
        have e96 : ((r : Int) == 96) = false := by simp; omega
        have e13 : ((r : Int) == 13) = true := by simp; omega
        have HT : Hid (textR true r = []) := Lib.hid (by unfold textR; rw [if_pos (by simp; omega)])
        obtain ⟨c, hc⟩ : ∃ c : Int, (r : Int) = c := ⟨_, rfl⟩
        have HC := Lib.hid hc
        rw [hc] at hnx e0 e65533 e65279 e96 e13
        have HQ := Lib.hid hq
        clear hc hez hsz hq
        go_wp2
        go_roundw
        case rel => exact ⟨_, b - 1, P ++ [r], HI2.out, HB2.out, congrArg Value.string (ba_text0 HT.out), hrn, by omega⟩
        case measure => rw [iterPos_of HI2.out, iterPos_of HI.out]; omega
      have e0 : ((r : Int) == 0) = false := by simp; omega
      have e65533 : ((r : Int) == 65533) = false := by simp; omega
      have e65279 : ((r : Int) == 65279) = false := by simp; omega
      have e96 : ((r : Int) == 96) = false := by simp; omega
      have e13 : ((r : Int) == 13) = false := by simp; omega
      have HT : Hid (textR true r = [r]) := Lib.hid (by unfold textR; rw [if_neg (by simp; omega), if_pos rfl])
      obtain ⟨c, hc⟩ : ∃ c : Int, (r : Int) = c := ⟨_, rfl⟩
      have HC := Lib.hid hc
      have hsz2 : (BA (P.flatMap (textR true))).size + (Utf8.encode (r : Int)).size ≤ 9223372036854775807 := by omega
      rw [hc] at hnx hsz2 e0 e65533 e65279 e96 e13
      clear hc hez hsz
      go_wp2
      go_roundw
      case rel => exact ⟨_, b - 1, P ++ [r], HI2.out, HB2.out, congrArg Value.string (by rw [← HC.out, ba_enc r HOK.out]; exact ba_text1 (by rw [HT.out])), hrn, by omega⟩
      case measure => rw [iterPos_of HI2.out, iterPos_of HI.out]; omega
    · have hnx := fun ty => Lib.run_next_end_at (P := Tryd.prog) wr w.heap.size s pos ty hi hp
      have hall : P = runesS s := by rw [HR.out, runesF_end s b pos hp, List.append_nil]
      have hPl := runes_pre (Q := []) (by rw [List.append_nil]; exact hall.symm : runesS s = P ++ [])
      have hsz2 : (⟨#[96]⟩ : ByteArray).size + (BA (P.flatMap (textR true))).size ≤ 9223372036854775807 := by
        have := text_sz0 (P := P) (raw := true) (k := 1) (by omega) (by omega)
        show 1 + _ ≤ _; omega
      have hsz3 : ((⟨#[96]⟩ : ByteArray) ++ BA (P.flatMap (textR true))).size + (⟨#[96]⟩ : ByteArray).size ≤ 9223372036854775807 := by
        have := text_sz0 (P := P) (raw := true) (k := 2) (by omega) (by omega)
        rw [ByteArray.size_append]
        show 1 + _ + 1 ≤ _; omega
      have HB := Lib.hid hb
      have HALL := Lib.hid hall
      clear hi hb HR hall
      go_wp2
      go_ret
      refine ⟨ret_str ?_, HB.out⟩
      rw [show (⟨#[96]⟩ : ByteArray) = BA [96] from rfl, ba_app, ba_app, HALL.out]
      rfl

set_option maxHeartbeats 4000000 in
set_option maxRecDepth 100000 in
theorem text_esc (n : Nat) (s : ByteArray) (w : World) (hs : s.size ≤ 2147483648) (hn : n ≤ 1000) (hr : n % 2 = 0) :
    Calls Tryd.prog 36 #[.int .i64 (n : Int), .string s] w fun e w' => e = .returned (.string (BA (34 :: (textL false s ++ [34])))) ∧ Below w.heap.size w w' := by
  have hpar : ((n : Int) % 2 == 0) = true := by simp; omega
  have hpar' : ((n : Int) % 2 != 0) = false := by simp; omega
  clear hr
  go_enter Tryd.func36, Tryd.ntmps36
  go_wp2
  go_loopw [5] (fun o wr => RunRel s w (fun P => P.flatMap (textR false)) o wr) (fun _ wr => s.size - wr.iterPos w.heap.size)
  case atStart => exact ⟨0, s.size, [], World.iter_heap w s 0, (Below.refl _ _).alloc (Nat.le_refl _) _, rfl, Lib.hid rfl, by omega⟩
  case round =>
    obtain ⟨pos, b, P, hi, hb, rfl, HR, hle⟩ := hrel
    by_cases hp : pos < s.size
    · have hok := decode_ok s pos
      have hrg := decode_range s pos hp
      have hnx := fun ty => Lib.run_next_any_at (P := Tryd.prog) wr w.heap.size s pos ty hi hp
      have hrn : Hid (runesS s = (P ++ [(Utf8.decode s pos).1]) ++ runesF s (b - 1) (pos + (Utf8.decode s pos).2)) := by
        have := HR.out
        obtain ⟨b', rfl⟩ : ∃ b', b = b' + 1 := ⟨b - 1, by omega⟩
        rw [runesF_step s b' pos hp] at this
        exact Lib.hid (by rw [this]; simp)
      have hi2 := Lib.iterAt_heap wr w.heap.size s pos (pos + (Utf8.decode s pos).2) hi
      have hb2 := Lib.below_iterAt hb (Nat.le_refl _) s (pos + (Utf8.decode s pos).2)
      have HI2 := Lib.hid hi2
      have HB2 := Lib.hid hb2
      have HI := Lib.hid hi
      have hwz : w.heap.size ≤ wr.heap.size := hb.size
      have HOK := Lib.hid hok
      have hPl := runes_pre hrn.out
      rw [List.length_append, List.length_singleton] at hPl
      have hsz := text_sz (P := P) (raw := false) hok (k := 10) (by omega) (by omega)
      have hez := encode_le _ hok
      generalize hr : (Utf8.decode s pos).1 = r at *
      generalize hwd : (Utf8.decode s pos).2 = wd at *
      clear hi2 hb2 hr hwd HR hb hi hok
      by_cases hq : r = 0
      · have e0 : ((r : Int) == 0) = true := by simp; omega
        have HT : Hid (textR false r = []) := Lib.hid (by unfold textR; rw [if_pos (by simp; omega)])
        obtain ⟨c, hc⟩ : ∃ c : Int, (r : Int) = c := ⟨_, rfl⟩
        have HC := Lib.hid hc
        rw [hc] at hnx e0
        have HQ := Lib.hid hq
        clear hc hez hsz hq
        go_wp2
        go_roundw
        case rel => exact ⟨_, b - 1, P ++ [r], HI2.out, HB2.out, congrArg Value.string (ba_text0 HT.out), hrn, by omega⟩
        case measure => rw [iterPos_of HI2.out, iterPos_of HI.out]; omega
      by_cases hq : r = 65533
      · have e0 : ((r : Int) == 0) = false := by simp; omega
        have e65533 : ((r : Int) == 65533) = true := by simp; omega
        have HT : Hid (textR false r = []) := Lib.hid (by unfold textR; rw [if_pos (by simp; omega)])
        obtain ⟨c, hc⟩ : ∃ c : Int, (r : Int) = c := ⟨_, rfl⟩
        have HC := Lib.hid hc
        rw [hc] at hnx e0 e65533
        have HQ := Lib.hid hq
        clear hc hez hsz hq
        go_wp2
        go_roundw
        case rel => exact ⟨_, b - 1, P ++ [r], HI2.out, HB2.out, congrArg Value.string (ba_text0 HT.out), hrn, by omega⟩
        case measure => rw [iterPos_of HI2.out, iterPos_of HI.out]; omega
      by_cases hq : r = 65279
      · have e0 : ((r : Int) == 0) = false := by simp; omega
        have e65533 : ((r : Int) == 65533) = false := by simp; omega
        have e65279 : ((r : Int) == 65279) = true := by simp; omega
        have HT : Hid (textR false r = []) := Lib.hid (by unfold textR; rw [if_pos (by simp; omega)])
        obtain ⟨c, hc⟩ : ∃ c : Int, (r : Int) = c := ⟨_, rfl⟩
        have HC := Lib.hid hc
        rw [hc] at hnx e0 e65533 e65279
        have HQ := Lib.hid hq
        clear hc hez hsz hq
        go_wp2
        go_roundw
        case rel => exact ⟨_, b - 1, P ++ [r], HI2.out, HB2.out, congrArg Value.string (ba_text0 HT.out), hrn, by omega⟩
        case measure => rw [iterPos_of HI2.out, iterPos_of HI.out]; omega
      by_cases hq : r = 34
      · have e0 : ((r : Int) == 0) = false := by simp; omega
        have e65533 : ((r : Int) == 65533) = false := by simp; omega
        have e65279 : ((r : Int) == 65279) = false := by simp; omega
        have e34 : ((r : Int) == 34) = true := by simp; omega
        have HT : Hid (textR false r = [92, r]) := Lib.hid (by unfold textR; rw [if_neg (by simp; omega), if_neg (by decide), if_pos (by omega)])
        obtain ⟨c, hc⟩ : ∃ c : Int, (r : Int) = c := ⟨_, rfl⟩
        have HC := Lib.hid hc
        have hsz2 : (BA (P.flatMap (textR false))).size + ((⟨#[92]⟩ : ByteArray) ++ Utf8.encode (r : Int)).size ≤ 9223372036854775807 := by rw [ByteArray.size_append]; show _ + (1 + _) ≤ _; omega
        have hsz3 : (⟨#[92]⟩ : ByteArray).size + (Utf8.encode (r : Int)).size ≤ 9223372036854775807 := by show 1 + _ ≤ _; omega
        rw [hc] at hnx hsz2 hsz3 e0 e65533 e65279 e34
        have HQ := Lib.hid hq
        clear hc hez hsz hq
        go_wp2
        go_roundw
        case rel => exact ⟨_, b - 1, P ++ [r], HI2.out, HB2.out, congrArg Value.string (by rw [← HC.out, ba_enc r HOK.out]; exact ba_text1 (by rw [HT.out]; rw [show (⟨#[92]⟩ : ByteArray) = BA [92] from rfl, ba_app]; rfl)), hrn, by omega⟩
        case measure => rw [iterPos_of HI2.out, iterPos_of HI.out]; omega
      by_cases hq : r = 92
      · have e0 : ((r : Int) == 0) = false := by simp; omega
        have e65533 : ((r : Int) == 65533) = false := by simp; omega
        have e65279 : ((r : Int) == 65279) = false := by simp; omega
        have e34 : ((r : Int) == 34) = false := by simp; omega
        have e92 : ((r : Int) == 92) = true := by simp; omega
        have HT : Hid (textR false r = [92, r]) := Lib.hid (by unfold textR; rw [if_neg (by simp; omega), if_neg (by decide), if_pos (by omega)])
        obtain ⟨c, hc⟩ : ∃ c : Int, (r : Int) = c := ⟨_, rfl⟩
        have HC := Lib.hid hc
        have hsz2 : (BA (P.flatMap (textR false))).size + ((⟨#[92]⟩ : ByteArray) ++ Utf8.encode (r : Int)).size ≤ 9223372036854775807 := by rw [ByteArray.size_append]; show _ + (1 + _) ≤ _; omega
        have hsz3 : (⟨#[92]⟩ : ByteArray).size + (Utf8.encode (r : Int)).size ≤ 9223372036854775807 := by show 1 + _ ≤ _; omega
        rw [hc] at hnx hsz2 hsz3 e0 e65533 e65279 e34 e92
        have HQ := Lib.hid hq
        clear hc hez hsz hq
        go_wp2
        go_roundw
        case rel => exact ⟨_, b - 1, P ++ [r], HI2.out, HB2.out, congrArg Value.string (by rw [← HC.out, ba_enc r HOK.out]; exact ba_text1 (by rw [HT.out]; rw [show (⟨#[92]⟩ : ByteArray) = BA [92] from rfl, ba_app]; rfl)), hrn, by omega⟩
        case measure => rw [iterPos_of HI2.out, iterPos_of HI.out]; omega
      by_cases hq : r < 32
      · have e0 : ((r : Int) == 0) = false := by simp; omega
        have e65533 : ((r : Int) == 65533) = false := by simp; omega
        have e65279 : ((r : Int) == 65279) = false := by simp; omega
        have e34 : ((r : Int) == 34) = false := by simp; omega
        have e92 : ((r : Int) == 92) = false := by simp; omega
        have h32 : (r : Int) < 32 := by omega
        have HT : Hid (textR false r = [92, 117, 48, 48, hexD (r / 16 % 16), hexD (r % 16)]) := Lib.hid (by unfold textR; rw [if_neg (by simp; omega), if_neg (by decide), if_neg (by omega), if_pos (by omega)])
        obtain ⟨c, hc⟩ : ∃ c : Int, (r : Int) = c := ⟨_, rfl⟩
        have HC := Lib.hid hc
        have hA1 : bits BinOp.and .i32 ((r : Int) / 16) 15 = ((r / 16 % 16 : Nat) : Int) := and15 (r / 16) (by omega)
        have hA2 : bits BinOp.and .i32 (r : Int) 15 = ((r % 16 : Nat) : Int) := and15 r (by omega)
        obtain ⟨d1, hd1⟩ : ∃ d, r / 16 % 16 = d := ⟨_, rfl⟩
        obtain ⟨d2, hd2⟩ : ∃ d, r % 16 = d := ⟨_, rfl⟩
        have l1 : (d1 : Int) < 16 := by omega
        have l2 : (d2 : Int) < 16 := by omega
        have hsz6 : (BA (P.flatMap (textR false))).size + 6 ≤ 9223372036854775807 := by omega
        have m1 : d1 < 16 := by omega
        have m2 : d2 < 16 := by omega
        have hcv := two_cv (wr.iterAt w.heap.size s (pos + wd)) ((⟨#[48, 49, 50, 51, 52, 53, 54, 55, 56, 57, 97, 98, 99, 100, 101, 102]⟩ : ByteArray)[d1]'m1) ((⟨#[48, 49, 50, 51, 52, 53, 54, 55, 56, 57, 97, 98, 99, 100, 101, 102]⟩ : ByteArray)[d2]'m2)
        rw [hd1] at hA1 HT; rw [hd2] at hA2 HT
        clear hd1 hd2
        rw [hc] at hA1 hA2 hnx e0 e65533 e65279 e34 e92 h32
        have HQ := Lib.hid hq
        clear hc hez hsz hq
        go_wp2
        go_region
        all_goals go_wp2
        all_goals
          go_roundw
          case rel => exact ⟨_, b - 1, P ++ [r], row_alloc HI2.out, (HB2.out.alloc (by rw [Lib.iterAt_size]; exact hwz) _).drew, congrArg Value.string (ba_text1 (by rw [HT.out]; exact (hex_ba d1 d2 m1 m2).symm)), hrn, by omega⟩
          case measure => exact meas_lt (row_alloc HI2.out) HI.out (by omega)
      by_cases hq : r = 127
      · have e0 : ((r : Int) == 0) = false := by simp; omega
        have e65533 : ((r : Int) == 65533) = false := by simp; omega
        have e65279 : ((r : Int) == 65279) = false := by simp; omega
        have e34 : ((r : Int) == 34) = false := by simp; omega
        have e92 : ((r : Int) == 92) = false := by simp; omega
        have h32 : 32 ≤ (r : Int) := by omega
        have e127 : ((r : Int) == 127) = true := by simp; omega
        have HT : Hid (textR false r = [92, 117, 48, 48, hexD (r / 16 % 16), hexD (r % 16)]) := Lib.hid (by unfold textR; rw [if_neg (by simp; omega), if_neg (by decide), if_neg (by omega), if_pos (by omega)])
        obtain ⟨c, hc⟩ : ∃ c : Int, (r : Int) = c := ⟨_, rfl⟩
        have HC := Lib.hid hc
        have hA1 : bits BinOp.and .i32 ((r : Int) / 16) 15 = ((r / 16 % 16 : Nat) : Int) := and15 (r / 16) (by omega)
        have hA2 : bits BinOp.and .i32 (r : Int) 15 = ((r % 16 : Nat) : Int) := and15 r (by omega)
        obtain ⟨d1, hd1⟩ : ∃ d, r / 16 % 16 = d := ⟨_, rfl⟩
        obtain ⟨d2, hd2⟩ : ∃ d, r % 16 = d := ⟨_, rfl⟩
        have l1 : (d1 : Int) < 16 := by omega
        have l2 : (d2 : Int) < 16 := by omega
        have hsz6 : (BA (P.flatMap (textR false))).size + 6 ≤ 9223372036854775807 := by omega
        have m1 : d1 < 16 := by omega
        have m2 : d2 < 16 := by omega
        have hcv := two_cv (wr.iterAt w.heap.size s (pos + wd)) ((⟨#[48, 49, 50, 51, 52, 53, 54, 55, 56, 57, 97, 98, 99, 100, 101, 102]⟩ : ByteArray)[d1]'m1) ((⟨#[48, 49, 50, 51, 52, 53, 54, 55, 56, 57, 97, 98, 99, 100, 101, 102]⟩ : ByteArray)[d2]'m2)
        rw [hd1] at hA1 HT; rw [hd2] at hA2 HT
        clear hd1 hd2
        rw [hc] at hA1 hA2 hnx e0 e65533 e65279 e34 e92 e127 h32
        have HQ := Lib.hid hq
        clear hc hez hsz hq
        go_wp2
        go_region
        all_goals go_wp2
        all_goals
          go_roundw
          case rel => exact ⟨_, b - 1, P ++ [r], row_alloc HI2.out, (HB2.out.alloc (by rw [Lib.iterAt_size]; exact hwz) _).drew, congrArg Value.string (ba_text1 (by rw [HT.out]; exact (hex_ba d1 d2 m1 m2).symm)), hrn, by omega⟩
          case measure => exact meas_lt (row_alloc HI2.out) HI.out (by omega)
      have e0 : ((r : Int) == 0) = false := by simp; omega
      have e65533 : ((r : Int) == 65533) = false := by simp; omega
      have e65279 : ((r : Int) == 65279) = false := by simp; omega
      have e34 : ((r : Int) == 34) = false := by simp; omega
      have e92 : ((r : Int) == 92) = false := by simp; omega
      have h32 : 32 ≤ (r : Int) := by omega
      have e127 : ((r : Int) == 127) = false := by simp; omega
      have HT : Hid (textR false r = [r]) := Lib.hid (by unfold textR; rw [if_neg (by simp; omega), if_neg (by decide), if_neg (by omega), if_neg (by omega)])
      obtain ⟨c, hc⟩ : ∃ c : Int, (r : Int) = c := ⟨_, rfl⟩
      have HC := Lib.hid hc
      have hsz2 : (BA (P.flatMap (textR false))).size + (Utf8.encode (r : Int)).size ≤ 9223372036854775807 := by omega
      rw [hc] at hnx hsz2 e0 e65533 e65279 e34 e92 e127 h32
      clear hc hez hsz
      go_wp2
      go_roundw
      case rel => exact ⟨_, b - 1, P ++ [r], HI2.out, HB2.out, congrArg Value.string (by rw [← HC.out, ba_enc r HOK.out]; exact ba_text1 (by rw [HT.out])), hrn, by omega⟩
      case measure => rw [iterPos_of HI2.out, iterPos_of HI.out]; omega
    · have hnx := fun ty => Lib.run_next_end_at (P := Tryd.prog) wr w.heap.size s pos ty hi hp
      have hall : P = runesS s := by rw [HR.out, runesF_end s b pos hp, List.append_nil]
      have hPl := runes_pre (Q := []) (by rw [List.append_nil]; exact hall.symm : runesS s = P ++ [])
      have hsz2 : (⟨#[34]⟩ : ByteArray).size + (BA (P.flatMap (textR false))).size ≤ 9223372036854775807 := by
        have := text_sz0 (P := P) (raw := false) (k := 1) (by omega) (by omega)
        show 1 + _ ≤ _; omega
      have hsz3 : ((⟨#[34]⟩ : ByteArray) ++ BA (P.flatMap (textR false))).size + (⟨#[34]⟩ : ByteArray).size ≤ 9223372036854775807 := by
        have := text_sz0 (P := P) (raw := false) (k := 2) (by omega) (by omega)
        rw [ByteArray.size_append]
        show 1 + _ + 1 ≤ _; omega
      have HB := Lib.hid hb
      have HALL := Lib.hid hall
      clear hi hb HR hall
      go_wp2
      go_ret
      refine ⟨ret_str ?_, HB.out⟩
      rw [show (⟨#[34]⟩ : ByteArray) = BA [34] from rfl, ba_app, ba_app, HALL.out]
      rfl

end Go.Proofs.YtplljfbbipeakaaDoor

namespace Go.Proofs.YtplljfbbipeakaaDoor
open Go Go.RowKit

/-- '(n%N+N)%N'. -/
def modOf (N : Nat) (n : Int) : Nat := ((n.tmod N + N).tmod N).toNat
theorem modOf_spec (N : Nat) (h0 : 0 < N) (hN : N ≤ 1000) (n : Int) : (wrap64 (n.tmod N + N)).tmod N = (modOf N n : Int) ∧ modOf N n < N := by
  have h1 : -(N : Int) < n.tmod N := Int.lt_tmod_of_pos n (by omega)
  have h2 : n.tmod N < N := Int.tmod_lt_of_pos n (by omega)
  have e : wrap64 (n.tmod N + N) = n.tmod N + N := IntWalk.wrap64_in _ ⟨by omega, by omega⟩
  have h3 : 0 ≤ (n.tmod N + N).tmod N := Int.tmod_nonneg _ (by omega)
  have h4 : (n.tmod N + N).tmod N < N := Int.tmod_lt_of_pos _ (by omega)
  rw [e]
  unfold modOf
  omega

theorem mod7_spec (n : Int) : (wrap64 (n.tmod 7 + 7)).tmod 7 = (modOf 7 n : Int) ∧ modOf 7 n < 7 := modOf_spec 7 (by decide) (by decide) n
theorem mod1000_spec (n : Int) : (wrap64 (n.tmod 1000 + 1000)).tmod 1000 = (modOf 1000 n : Int) ∧ modOf 1000 n < 1000 := modOf_spec 1000 (by decide) (by decide) n

/-- What spec.text writes. -/
def textT (n : Nat) (s : ByteArray) : List Nat := markN (decide (n % 2 = 1)) :: (textL (decide (n % 2 = 1)) s ++ [markN (decide (n % 2 = 1))])
theorem text_walk (n : Nat) (s : ByteArray) (w : World) (hs : s.size ≤ 2147483648) (hn : n ≤ 1000) :
    Calls Tryd.prog 36 #[.int .i64 (n : Int), .string s] w fun e w' => e = .returned (.string (BA (textT n s))) ∧ Below w.heap.size w w' := by
  unfold textT
  by_cases h : n % 2 = 1
  · rw [decide_eq_true h]; exact text_raw n s w hs hn h
  · rw [decide_eq_false h]; exact text_esc n s w hs hn (by omega)

def fitsP (t : ByteArray) : Bool := decide (t.size ≤ 2147483647)
set_option maxHeartbeats 1000000 in
theorem zzFits2_walk (k n : Int) (t : ByteArray) (w : World) (ht : t.size ≤ maxLen) :
    Calls Tryd.prog 21 #[.agg #[.int .i64 k, .int .i64 n, .string t]] w fun e w' => e = .returned (.bool (fitsP t)) ∧ Below w.heap.size w w' := by
  unfold maxLen at ht
  by_cases h : t.size ≤ 2147483647
  · have h1 : ¬ (2147483647 : Int) < (t.size : Int) := by omega
    have HF := Lib.hid (show fitsP t = true from decide_eq_true h)
    clear h
    go_enter Tryd.func21, Tryd.ntmps21
    go_wp2
    go_ret
    exact ⟨ret_bool HF.out.symm, (Below.refl _ _).alloc (Nat.le_refl _) _⟩
  · have h1 : (2147483647 : Int) < (t.size : Int) := by omega
    have HF := Lib.hid (show fitsP t = false from decide_eq_false h)
    clear h
    go_enter Tryd.func21, Tryd.ntmps21
    go_wp2
    go_ret
    exact ⟨ret_bool HF.out.symm, (Below.refl _ _).alloc (Nat.le_refl _) _⟩

set_option maxHeartbeats 2000000 in
set_option maxRecDepth 100000 in
/-- spec.Write at a string. -/
theorem write3_walk (k n : Int) (t : ByteArray) (mv : Value) (w : World) (hk : modOf 7 k = 3) (ht : t.size ≤ 2147483647) :
    Calls Tryd.prog 22 #[.agg #[.int .i64 k, .int .i64 n, .string t], mv] w fun e w' => e = .returned (.tuple #[.string (BA (textT (modOf 1000 n) t)), .int .i64 17]) ∧ Below w.heap.size w w' := by
  have e7 : (wrap64 (k.tmod 7 + 7)).tmod 7 = 3 := by rw [(mod7_spec k).1, hk]; rfl
  obtain ⟨e1000, l1000⟩ := mod1000_spec n
  generalize modOf 1000 n = m at *
  have hT := text_walk m t (w.alloc (.cells #[.int .i64 k, .int .i64 n, .string t] 43)) (by omega) (by omega)
  have HT := Lib.hid hT
  clear hT
  go_enter Tryd.func22, Tryd.ntmps22
  go_wp2_with fail
  refine HT.out.mono ?_
  rintro e w1 ⟨rfl, hb⟩
  have HB := Lib.hid (((Below.refl w.heap.size w).alloc (Nat.le_refl _) (.cells #[.int .i64 k, .int .i64 n, .string t] 43)).trans (hb.mono (by simp)))
  clear hb
  go_wp2
  go_ret2
  exact ⟨rfl, HB.out⟩

end Go.Proofs.YtplljfbbipeakaaDoor
