/- spec.name, walked; what it gives. -/
import Derived.Test.YtplljfbbipeakaaDoorSp1
import Derived.Test.YtplljfbbipeakaaDoorSpM
import Derived.Maps.AppendAt
import Derived.Test.YtplljfbbipeakaaDoorMem
import Derived.Test.YtplljfbbipeakaaDoorImp1
namespace Go.Proofs.YtplljfbbipeakaaDoor
open Go Go.RowKit Go.Maps Go.WideMaps Go.WideElems

def nameStep (out : List UInt8) (c : UInt8) : List UInt8 := if (letB (c.toNat : Int) (!out.isEmpty) && decide (out.length < 16)) = true then out ++ [c] else out
def name0 (s : List UInt8) : List UInt8 := s.foldl nameStep []
def nameL (s : List UInt8) : List UInt8 := if name0 s ∈ wordL ++ moreL then name0 s ++ [120] else if name0 s = [] then [120] else name0 s

theorem nameStep_le (out : List UInt8) (c : UInt8) (h : out.length ≤ 16) : (nameStep out c).length ≤ 16 := by
  unfold nameStep; split
  · rename_i h2
    simp only [Bool.and_eq_true, decide_eq_true_eq] at h2
    rw [List.length_append, List.length_singleton]; omega
  · exact h
theorem foldl_name_le : ∀ (s out : List UInt8), out.length ≤ 16 → (s.foldl nameStep out).length ≤ 16
  | [], _, h => h
  | c :: s, out, h => foldl_name_le s _ (nameStep_le out c h)

def strV (l : List UInt8) : Value := .string ⟨l.toArray⟩
theorem strV_one {L : List (List UInt8)} : ∀ u ∈ L.map strV, u.oneCell' = true := by
  intro u hu
  obtain ⟨l, _, rfl⟩ := List.mem_map.1 hu
  rfl
theorem addr_z (g j : Nat) : (⟨g, 0, none⟩ : Addr).add j = ⟨g, j, none⟩ := by
  unfold Addr.add; split
  · subst_vars; rfl
  · simp

/-- The fifteen words, owned. -/
def allL : List (List UInt8) := wordL ++ moreL
theorem strs_form {w : World} {B : Nat} {v : Value} (h : w.ownsRow B 9 1 v (11 + 4) (wordL.map strV ++ moreL.map strV)) :
    ∃ g c, v = .slice (some ⟨g, 0, none⟩) 15 c ∧ Hid (∀ j, j < 15 → w.cell? ⟨g, j, none⟩ = some (.string ⟨(allL.getD j []).toArray⟩)) := by
  rcases h.2 with ⟨_, h0⟩ | ⟨g, cap, cur, rfl, hg, hh, r⟩
  · omega
  · refine ⟨g, cap, rfl, Lib.hid fun j hj => ?_⟩
    have hu : (wordL.map strV ++ moreL.map strV)[j]? = some (.string ⟨(allL.getD j []).toArray⟩) := by
      rw [← List.map_append, List.getElem?_map]
      have e : (wordL ++ moreL)[j]? = some (allL.getD j []) := by rw [List.getD_eq_getElem?_getD, show allL = wordL ++ moreL from rfl, List.getElem?_eq_getElem (by simpa [wordL, moreL] using hj)]; rfl
      rw [e]; rfl
    have := h.cells (g := g) rfl j _ hu
    rwa [addr_z] at this

set_option maxHeartbeats 4000000 in
set_option maxRecDepth 100000 in
theorem name_walk (s : ByteArray) (w : World) (hs : s.size ≤ 4294967296) :
    Calls Tryd.prog 38 #[.string s] w fun e w' => e = .returned (.string ⟨(nameL s.data.toList).toArray⟩) ∧ Below w.heap.size w w' := by
  obtain ⟨i0, hi, hz0, hz1, hz2⟩ := info_parts info9
  go_enter Tryd.func38, Tryd.ntmps38
  go_wp2
  go_loop [3, 11] (fun o i => ∃ k : Nat, k ≤ s.size ∧ i = .int .i64 k ∧ o = .string ⟨((s.data.toList.take k).foldl nameStep []).toArray⟩) (fun _ i => s.size - (intOf i).toNat)
  case atStart => exact ⟨0, Nat.zero_le _, rfl, rfl⟩
  case round =>
    obtain ⟨k, hk, rfl, rfl⟩ := hrel
    have hle := foldl_name_le (s.data.toList.take k) [] (by simp)
    by_cases hlt : k < s.size
    · have hst := foldl_snoc nameStep [] s k hlt
      have hx1 := ext_one s k hlt
      have hc255 : (s[k].toNat : Int) ≤ 255 := by have := s[k].toNat_lt; omega
      generalize (s.data.toList.take k).foldl nameStep [] = out at *
      have HST := Lib.hid hst
      have HX := Lib.hid hx1
      clear hst hx1
      cases hb : letB (s[k].toNat : Int) (!out.isEmpty) with
      | true =>
        have HL := letter_any (s[k].toNat : Int) (!out.isEmpty) w (by omega) hc255
        rw [hb] at HL
        have HL := Lib.hid HL
        by_cases h16 : out.length < 16
        · have hns : nameStep out s[k] = out ++ [s[k]] := by unfold nameStep; rw [hb, decide_eq_true h16]; rfl
          have HNS := Lib.hid hns
          have h16' : (out.length : Int) < 16 := by omega
          clear hb hns
          go_wp2_with fail
          refine HL.out.mono ?_
          rintro e w1 ⟨rfl, rfl⟩
          go_wp2
          go_round
          case rel => exact ⟨k + 1, by omega, by go_num, by rw [HST.out, HNS.out, HX.out, app_ba]⟩
          case measure => simp [intOf]; omega
        · have hns : nameStep out s[k] = out := by unfold nameStep; rw [hb, decide_eq_false h16]; rfl
          have HNS := Lib.hid hns
          have h16' : 16 ≤ (out.length : Int) := by omega
          clear hb hns
          go_wp2_with fail
          refine HL.out.mono ?_
          rintro e w1 ⟨rfl, rfl⟩
          go_wp2
          go_round
          case rel => exact ⟨k + 1, by omega, by go_num, by rw [HST.out, HNS.out]⟩
          case measure => simp [intOf]; omega
      | false =>
        have HL := letter_any (s[k].toNat : Int) (!out.isEmpty) w (by omega) hc255
        rw [hb] at HL
        have HL := Lib.hid HL
        have hns : nameStep out s[k] = out := by unfold nameStep; rw [hb]; rfl
        have HNS := Lib.hid hns
        clear hb hns
        go_wp2_with fail
        refine HL.out.mono ?_
        rintro e w1 ⟨rfl, rfl⟩
        go_wp2
        go_round
        case rel => exact ⟨k + 1, by omega, by go_num, by rw [HST.out, HNS.out]⟩
        case measure => simp [intOf]; omega
    · have hall : s.data.toList.take k = s.data.toList := List.take_of_length_le (by have : s.data.toList.length = s.size := Array.length_toList; omega)
      rw [hall]
      have hle : (List.foldl nameStep [] s.data.toList).length ≤ 16 := foldl_name_le _ _ (by simp)
      generalize hD : List.foldl nameStep [] s.data.toList = D at *
      have HD := Lib.hid (show name0 s.data.toList = D from hD)
      clear hD hall
      go_wp2_with fail
      refine (words_walk w).mono ?_
      rintro e w1 ⟨rfl, e1⟩
      have hB1 : Below w.heap.size w w1 := by rw [← e1]; exact ((Below.refl _ _).alloc (Nat.le_refl _) _).alloc (by simp) _
      have hw1 : ∀ m, m < 11 → w1.cell? ⟨w.heap.size, m, none⟩ = some (.string ⟨(wordL.getD m []).toArray⟩) := fun m h => by rw [← e1]; exact word_cell w m h
      have HB1 := Lib.hid hB1
      have HW1 := Lib.hid hw1
      clear e1 hB1 hw1
      have hbs1 := HB1.out.size
      have hown0 : (w1.alloc (.cells #[] 9)).ownsRow w.heap.size 9 1 (.slice (some ⟨w1.heap.size, 0, none⟩) 0 0) 0 [] := ⟨rfl, Or.inr ⟨w1.heap.size, 0, #[], rfl, by omega, heap_alloc_new w1 _, Nat.zero_le _, by unfold maxLen; omega, rfl, rfl⟩⟩
      have hnews0 : ∀ j u, (wordL.map strV)[j]? = some u → (w1.alloc (.cells #[] 9)).cell? ((⟨w.heap.size, 0, none⟩ : Addr).add j) = some u := by
        intro j u hj
        have hjl : j < 11 := by
          have := (List.getElem?_eq_some_iff.1 hj).1
          simpa [wordL] using this
        rw [addr_z]
        have hu : u = .string ⟨(wordL.getD j []).toArray⟩ := by
          rw [List.getElem?_map] at hj
          have e : wordL[j]? = some (wordL.getD j []) := by rw [List.getD_eq_getElem?_getD, List.getElem?_eq_getElem (by simpa [wordL] using hjl)]; rfl
          rw [e] at hj
          exact (Option.some.inj hj).symm
        have hc := HW1.out j hjl
        rw [hu, ← hc]
        exact World.cell?_of_block (a := ⟨w.heap.size, j, none⟩) (Below.heap_alloc w1 _ w.heap.size (World.block_lt_of_cell? w1 _ hc))
      have hb0 : w.heap.size ≤ (w1.alloc (.cells #[] 9)).heap.size := by rw [World.size_alloc]; omega
      have hBL0 : Below w.heap.size w (w1.alloc (.cells #[] 9)) := HB1.out.alloc hbs1 _
      have HOWN0 := Lib.hid hown0
      have HN0 := Lib.hid hnews0
      have HB0 := Lib.hid hb0
      have HBL0 := Lib.hid hBL0
      clear hown0 hnews0 hb0 hBL0
      go_wp2_with (at_builtin; refine wpList_append_own_at _ rfl (.tmp 37) (.tmp 38) 22 rfl w.heap.size 9 i0 _ 1 16 Tryd.underlying22 hi hz0 hz1 hz2 rfl (by decide) _ 0 [] rfl HOWN0.out ⟨w.heap.size, 0, none⟩ 11 11 (wordL.map strV) rfl rfl HN0.out strV_one (by unfold maxLen; omega) (by omega) HB0.out ?_; intro v2 w2 hown2 hgr2 _ _; have HOWN2 := Lib.hid hown2; have HGR2 := Lib.hid hgr2; clear hown2 hgr2)
      refine (more_walk w2).mono ?_
      rintro e w3 ⟨rfl, e3⟩
      have hbl2 : Below w.heap.size w w2 := HBL0.out.grown HGR2.out HB0.out (fun k hk => (HOWN0.out.lt k hk).1)
      have hbs2 := hbl2.size
      have hown3 : w3.ownsRow w.heap.size 9 1 v2 11 (wordL.map strV) := by rw [← e3]; exact HOWN2.out.alloc _
      have hbl3 : Below w.heap.size w w3 := by rw [← e3]; exact hbl2.alloc hbs2 _
      have hnews3 : ∀ j u, (moreL.map strV)[j]? = some u → w3.cell? ((⟨w2.heap.size, 0, none⟩ : Addr).add j) = some u := by
        intro j u hj
        have hjl : j < 4 := by
          have := (List.getElem?_eq_some_iff.1 hj).1
          simpa [moreL] using this
        rw [addr_z]
        have hu : u = .string ⟨(moreL.getD j []).toArray⟩ := by
          rw [List.getElem?_map] at hj
          have e : moreL[j]? = some (moreL.getD j []) := by rw [List.getD_eq_getElem?_getD, List.getElem?_eq_getElem (by simpa [moreL] using hjl)]; rfl
          rw [e] at hj
          exact (Option.some.inj hj).symm
        rw [hu, ← e3]
        exact more_cell w2 j hjl
      have hbs3 := hbl3.size
      have HOWN3 := Lib.hid hown3
      have HN3 := Lib.hid hnews3
      have HBL3 := Lib.hid hbl3
      clear hown3 hnews3 hbl3 e3 hbl2 hbs2
      go_wp2_with (at_builtin; refine wpList_append_own_at _ rfl (.tmp 39) (.tmp 40) 22 rfl w.heap.size 9 i0 _ 1 16 Tryd.underlying22 hi hz0 hz1 hz2 rfl (by decide) _ 11 (wordL.map strV) rfl HOWN3.out ⟨w2.heap.size, 0, none⟩ 4 4 (moreL.map strV) rfl rfl HN3.out strV_one (by unfold maxLen; omega) (by omega) hbs3 ?_; intro v4 w4 hown4 hgr4 _ _; have HOWN4 := Lib.hid hown4; have HGR4 := Lib.hid hgr4; clear hown4 hgr4; obtain ⟨g4, c4, rfl, HC4⟩ := strs_form HOWN4.out)
      have hbl4 : Below w.heap.size w w4 := HBL3.out.grown HGR4.out hbs3 (fun k hk => (HOWN3.out.lt k hk).1)
      have HBL4 := Lib.hid hbl4
      clear hbl4
      go_loopg [43] 15 (fun g i wr => ∃ j : Nat, j + g = 15 ∧ i = .int .i64 (j : Int) ∧ Hid (D ∉ allL.take j) ∧ wr = w4)
      case atStart => exact ⟨0, rfl, rfl, Lib.hid (by simp), rfl⟩
      case round =>
        obtain ⟨j, hg, rfl, HJ, rfl⟩ := hrel
        cases gk with
        | zero =>
          obtain rfl : j = 15 := by omega
          have hnot : ¬ D ∈ wordL ++ moreL := HJ.out
          by_cases hE : D = []
          · have hn : nameL s.data.toList = [120] := by unfold nameL; rw [HD.out, if_neg hnot, if_pos hE]
            have HNM := Lib.hid hn
            subst hE
            clear hnot hn
            go_wp2
            go_ret
            exact ⟨ret_str (by rw [HNM.out]), HBL4.out⟩
          · have hn : nameL s.data.toList = D := by unfold nameL; rw [HD.out, if_neg hnot, if_neg hE]
            have HNM := Lib.hid hn
            have hemp : D.isEmpty = false := by cases D with | nil => exact absurd rfl hE | cons _ _ => rfl
            clear hnot hn hE
            go_wp2
            go_ret
            exact ⟨ret_str (by rw [HNM.out]), HBL4.out⟩
        | succ g =>
          have hj : j < 15 := by omega
          have hj2 : (j + 1) + g = 15 := by omega
          have c1 := HC4.out j hj
          have htk : allL.take (j + 1) = allL.take j ++ [allL.getD j []] := by
            have e : allL.length = 15 := rfl
            rw [List.take_succ_eq_append_getElem (by omega), List.getD_eq_getElem?_getD, List.getElem?_eq_getElem (by omega)]; rfl
          have HTK := Lib.hid htk
          clear hg htk
          by_cases he : D = allL.getD j []
          · have hin : D ∈ wordL ++ moreL := by
              have e : allL.length = 15 := rfl
              have h1 : allL.getD j [] ∈ allL := by rw [List.getD_eq_getElem?_getD, List.getElem?_eq_getElem (by omega)]; exact List.getElem_mem _
              rw [he]; exact h1
            have hn : nameL s.data.toList = D ++ [120] := by unfold nameL; rw [HD.out, if_pos hin]
            have HNM := Lib.hid hn
            rw [← he] at c1
            clear he hin hn
            go_wp2
            go_ret
            exact ⟨ret_str (by rw [HNM.out]; exact app_ba D [120]), HBL4.out⟩
          · have hq : (D == allL.getD j []) = false := by simpa using he
            have HNE := Lib.hid he
            have hstep : D ∉ allL.take (j + 1) := by
              rw [HTK.out, List.mem_append, List.mem_singleton]
              exact fun h => h.elim HJ.out he
            have HST := Lib.hid hstep
            clear he hstep
            generalize allL.getD j [] = cur at *
            go_wp2_with fail
            go_roundg g
            case measure => omega
            case rel => exact ⟨j + 1, hj2, by go_num, HST, rfl⟩

end Go.Proofs.YtplljfbbipeakaaDoor

namespace Go.Proofs.YtplljfbbipeakaaDoor
open Go Go.RowKit

def signL : List (List UInt8) := [[91], [93], [123], [125], [40], [41], [44], [58], [43], [45], [42], [47], [37], [38], [124], [61], [61, 61], [58, 61], [33, 61], [62], [60], [62, 61], [60, 61], [46], [59]]
def signK : List Int := [22, 23, 24, 25, 26, 27, 28, 29, 30, 31, 32, 33, 34, 35, 36, 37, 38, 39, 41, 42, 43, 44, 45, 46, 47]
def signObj : Obj := .cells #[.string ⟨#[91]⟩, .string ⟨#[93]⟩, .string ⟨#[123]⟩, .string ⟨#[125]⟩, .string ⟨#[40]⟩, .string ⟨#[41]⟩, .string ⟨#[44]⟩, .string ⟨#[58]⟩, .string ⟨#[43]⟩, .string ⟨#[45]⟩, .string ⟨#[42]⟩, .string ⟨#[47]⟩, .string ⟨#[37]⟩, .string ⟨#[38]⟩, .string ⟨#[124]⟩, .string ⟨#[61]⟩, .string ⟨#[61, 61]⟩, .string ⟨#[58, 61]⟩, .string ⟨#[33, 61]⟩, .string ⟨#[62]⟩, .string ⟨#[60]⟩, .string ⟨#[62, 61]⟩, .string ⟨#[60, 61]⟩, .string ⟨#[46]⟩, .string ⟨#[59]⟩] 9
def signKObj : Obj := .cells #[.int .i64 22, .int .i64 23, .int .i64 24, .int .i64 25, .int .i64 26, .int .i64 27, .int .i64 28, .int .i64 29, .int .i64 30, .int .i64 31, .int .i64 32, .int .i64 33, .int .i64 34, .int .i64 35, .int .i64 36, .int .i64 37, .int .i64 38, .int .i64 39, .int .i64 41, .int .i64 42, .int .i64 43, .int .i64 44, .int .i64 45, .int .i64 46, .int .i64 47] 3

set_option maxHeartbeats 1000000 in
theorem signs_walk (w : World) :
    Calls Tryd.prog 34 #[] w fun e w' => e = .returned (.tuple #[.slice (some ⟨w.heap.size, 0, none⟩) 25 25, .slice (some ⟨w.heap.size + 1, 0, none⟩) 25 25]) ∧ (w.alloc signObj).alloc signKObj = w' := by
  go_enter Tryd.func34, Tryd.ntmps34
  go_wp2
  go_ret2
  exact ⟨rfl, rfl⟩

theorem sign_cells : ∀ m, m < 25 → (match signObj with | .cells cs _ _ => cs[m]? | _ => none) = some (.string ⟨(signL.getD m []).toArray⟩) ∧ (match signKObj with | .cells cs _ _ => cs[m]? | _ => none) = some (.int .i64 (signK.getD m 0)) := by
  intro m h
  have : m = 0 ∨ m = 1 ∨ m = 2 ∨ m = 3 ∨ m = 4 ∨ m = 5 ∨ m = 6 ∨ m = 7 ∨ m = 8 ∨ m = 9 ∨ m = 10 ∨ m = 11 ∨ m = 12 ∨ m = 13 ∨ m = 14 ∨ m = 15 ∨ m = 16 ∨ m = 17 ∨ m = 18 ∨ m = 19 ∨ m = 20 ∨ m = 21 ∨ m = 22 ∨ m = 23 ∨ m = 24 := by omega
  rcases this with rfl | rfl | rfl | rfl | rfl | rfl | rfl | rfl | rfl | rfl | rfl | rfl | rfl | rfl | rfl | rfl | rfl | rfl | rfl | rfl | rfl | rfl | rfl | rfl | rfl <;> exact ⟨rfl, rfl⟩

theorem sign_cell (w : World) (m : Nat) (h : m < 25) : ((w.alloc signObj).alloc signKObj).cell? ⟨w.heap.size, m, none⟩ = some (.string ⟨(signL.getD m []).toArray⟩) := by
  have hb : ((w.alloc signObj).alloc signKObj).heap[w.heap.size]? = some signObj := by
    rw [Below.heap_alloc _ _ _ (by simp)]; exact heap_alloc_new w _
  have hc := (sign_cells m h).1
  exact cell_row hb m _ hc
theorem signK_cell (w : World) (m : Nat) (h : m < 25) : ((w.alloc signObj).alloc signKObj).cell? ⟨w.heap.size + 1, m, none⟩ = some (.int .i64 (signK.getD m 0)) := by
  have hb : ((w.alloc signObj).alloc signKObj).heap[w.heap.size + 1]? = some signKObj := by
    have := heap_alloc_new (w.alloc signObj) signKObj
    rwa [World.size_alloc] at this
  have hc := (sign_cells m h).2
  exact cell_row hb m _ hc

def isSignB (l : List UInt8) : Bool := decide (l ∈ signL)

set_option maxHeartbeats 2000000 in
set_option maxRecDepth 100000 in
theorem isSign_walk (l : List UInt8) (w : World) :
    Calls Tryd.prog 23 #[.string ⟨l.toArray⟩] w fun e w' => e = .returned (.bool (isSignB l)) ∧ Below w.heap.size w w' := by
  go_enter Tryd.func23, Tryd.ntmps23
  go_wp2_with fail
  refine (signs_walk w).mono ?_
  rintro e w1 ⟨rfl, e1⟩
  have hB1 : Below w.heap.size w w1 := by rw [← e1]; exact ((Below.refl _ _).alloc (Nat.le_refl _) _).alloc (by simp) _
  have hw1 : ∀ m, m < 25 → w1.cell? ⟨w.heap.size, m, none⟩ = some (.string ⟨(signL.getD m []).toArray⟩) := fun m h => by rw [← e1]; exact sign_cell w m h
  have HB1 := Lib.hid hB1
  have HW1 := Lib.hid hw1
  clear e1 hB1 hw1
  go_wp2_with fail
  go_loopg [13] 25 (fun g i wr => ∃ j : Nat, j + g = 25 ∧ i = .int .i64 (j : Int) ∧ Hid (l ∉ signL.take j) ∧ wr = w1)
  case atStart => exact ⟨0, rfl, rfl, Lib.hid (by simp), rfl⟩
  case round =>
    obtain ⟨j, hg, rfl, HJ, rfl⟩ := hrel
    cases gk with
    | zero =>
      obtain rfl : j = 25 := by omega
      have HN := Lib.hid (show isSignB l = false from decide_eq_false HJ.out)
      go_wp2
      go_ret
      exact ⟨ret_bool HN.out.symm, HB1.out⟩
    | succ g =>
      have hj : j < 25 := by omega
      have hj2 : (j + 1) + g = 25 := by omega
      have c1 := HW1.out j hj
      have e25 : signL.length = 25 := rfl
      have htk : signL.take (j + 1) = signL.take j ++ [signL.getD j []] := by
        rw [List.take_succ_eq_append_getElem (by omega), List.getD_eq_getElem?_getD, List.getElem?_eq_getElem (by omega)]; rfl
      have HTK := Lib.hid htk
      clear hg htk
      by_cases he : signL.getD j [] = l
      · have hin : isSignB l = true := by
          have h1 : signL.getD j [] ∈ signL := by rw [List.getD_eq_getElem?_getD, List.getElem?_eq_getElem (by omega)]; exact List.getElem_mem _
          rw [he] at h1
          exact decide_eq_true h1
        have HN := Lib.hid hin
        rw [he] at c1
        clear he hin e25
        go_wp2
        go_ret
        exact ⟨ret_bool HN.out.symm, HB1.out⟩
      · have hq : (signL.getD j [] == l) = false := by simpa using he
        have hstep : l ∉ signL.take (j + 1) := by
          rw [HTK.out, List.mem_append, List.mem_singleton]
          exact fun h => h.elim HJ.out (fun e => he e.symm)
        have HST := Lib.hid hstep
        clear he hstep e25
        generalize signL.getD j [] = cur at *
        go_wp2_with fail
        go_roundg g
        case measure => omega
        case rel => exact ⟨j + 1, hj2, by go_num, HST, rfl⟩

end Go.Proofs.YtplljfbbipeakaaDoor

namespace Go.Proofs.YtplljfbbipeakaaDoor
open Go Go.RowKit

def asR (l : List UInt8) : List Nat := l.map UInt8.toNat
theorem ba_asR : ∀ {l : List UInt8}, (∀ c ∈ l, c.toNat < 128) → BA (asR l) = ⟨l.toArray⟩
  | [], _ => rfl
  | c :: l, h => by
    have h1 := ba_asR (l := l) (fun x hx => h x (.tail _ hx))
    have hc := h c (.head _)
    have e : BA (asR (c :: l)) = BA [c.toNat] ++ BA (asR l) := by rw [ba_app]; rfl
    rw [e, h1, ba_one hc]
    have e2 : UInt8.ofNat c.toNat = c := by simp
    rw [e2]
    exact app_ba [c] l

def moreK : List Int := [40, 49, 50, 51]
/-- What spec.Write writes: its runes, its kind. -/
def writeR (k num : Int) (t : ByteArray) : List Nat :=
  match modOf 7 k with
  | 0 => asR (wordL.getD (modOf 1000 num % 11) [])
  | 1 => asR (signL.getD (modOf 1000 num % 25) [])
  | 2 => asR (numL (modOf 1000 num) t.data.toList)
  | 3 => textT (modOf 1000 num) t
  | 4 => 35 :: commL t
  | 5 => asR (moreL.getD (modOf 1000 num % 4) [])
  | _ => asR (nameL t.data.toList)
def writeK (k num : Int) (ms : List (List UInt8)) : Int :=
  match modOf 7 k with
  | 0 => ((modOf 1000 num % 11 + 5 : Nat) : Int)
  | 1 => signK.getD (modOf 1000 num % 25) 0
  | 2 => 16
  | 3 => 17
  | 4 => 4
  | 5 => if moreL.getD (modOf 1000 num % 4) [] ∈ ms then moreK.getD (modOf 1000 num % 4) 0 else 3
  | _ => 3

theorem words_ascii : ∀ m, m < 11 → ∀ c ∈ wordL.getD m [], c.toNat < 128 := by decide
theorem signs_ascii : ∀ m, m < 25 → ∀ c ∈ signL.getD m [], c.toNat < 128 := by decide
theorem more_ascii : ∀ m, m < 4 → ∀ c ∈ moreL.getD m [], c.toNat < 128 := by decide

theorem tmod_nat (m N : Nat) : (m : Int).tmod (N : Int) = ((m % N : Nat) : Int) := by
  rw [Int.tmod_eq_emod_of_nonneg (by omega)]; omega

set_option maxHeartbeats 2000000 in
set_option maxRecDepth 100000 in
theorem write0_walk (k n : Int) (t : ByteArray) (mv : Value) (w : World) (hk : modOf 7 k = 0) :
    Calls Tryd.prog 22 #[.agg #[.int .i64 k, .int .i64 n, .string t], mv] w fun e w' => e = .returned (.tuple #[.string (BA (asR (wordL.getD (modOf 1000 n % 11) []))), .int .i64 ((modOf 1000 n % 11 + 5 : Nat) : Int)]) ∧ Below w.heap.size w w' := by
  have e7 : (wrap64 (k.tmod 7 + 7)).tmod 7 = 0 := by rw [(mod7_spec k).1, hk]; rfl
  obtain ⟨e1000, l1000⟩ := mod1000_spec n
  generalize modOf 1000 n = m at *
  have hj : m % 11 < 11 := Nat.mod_lt _ (by decide)
  have ht : (m : Int).tmod 11 = ((m % 11 : Nat) : Int) := tmod_nat m 11
  generalize m % 11 = j at *
  have hasc := words_ascii j hj
  have c1 := word_cell (w.alloc (.cells #[.int .i64 k, .int .i64 n, .string t] 43)) j hj
  have c2 := kind_cell (w.alloc (.cells #[.int .i64 k, .int .i64 n, .string t] 43)) j hj
  generalize wordL.getD j [] = wd at *
  rw [ba_asR hasc]
  have hb0 : Below w.heap.size w (w.alloc (.cells #[.int .i64 k, .int .i64 n, .string t] 43)) := (Below.refl _ _).alloc (Nat.le_refl _) _
  have Hb0 := Lib.hid hb0
  have C1 := Lib.hid c1
  have C2 := Lib.hid c2
  clear hb0 c1 c2 hasc
  go_enter Tryd.func22, Tryd.ntmps22
  go_wp2_with fail
  refine (words_walk _).mono ?_
  rintro e w1 ⟨rfl, e1⟩
  have c1 := C1.out
  have c2 := C2.out
  have hb1 : Below w.heap.size w w1 := by rw [← e1]; exact (Hb0.out.alloc (by simp) _).alloc (by simp; omega) _
  rw [e1] at c1 c2
  rw [World.size_alloc] at c1 c2 ⊢
  have Hb1 := Lib.hid hb1
  have hj2 : (j : Int) < 11 := by omega
  clear e1 hb1 C1 C2
  go_wp2
  go_quiet (fail)
  go_wp2
  go_ret2
  exact ⟨rfl, Hb1.out.trans ⟨rfl, rfl, rfl, Nat.le_refl _, fun _ _ => rfl⟩⟩

set_option maxHeartbeats 2000000 in
set_option maxRecDepth 100000 in
theorem write1_walk (k n : Int) (t : ByteArray) (mv : Value) (w : World) (hk : modOf 7 k = 1) :
    Calls Tryd.prog 22 #[.agg #[.int .i64 k, .int .i64 n, .string t], mv] w fun e w' => e = .returned (.tuple #[.string (BA (asR (signL.getD (modOf 1000 n % 25) []))), .int .i64 (signK.getD (modOf 1000 n % 25) 0)]) ∧ Below w.heap.size w w' := by
  have e7 : (wrap64 (k.tmod 7 + 7)).tmod 7 = 1 := by rw [(mod7_spec k).1, hk]; rfl
  obtain ⟨e1000, l1000⟩ := mod1000_spec n
  generalize modOf 1000 n = m at *
  have hj : m % 25 < 25 := Nat.mod_lt _ (by decide)
  have ht : (m : Int).tmod 25 = ((m % 25 : Nat) : Int) := tmod_nat m 25
  generalize m % 25 = j at *
  have hasc := signs_ascii j hj
  have c1 := sign_cell (w.alloc (.cells #[.int .i64 k, .int .i64 n, .string t] 43)) j hj
  have c2 := signK_cell (w.alloc (.cells #[.int .i64 k, .int .i64 n, .string t] 43)) j hj
  generalize signL.getD j [] = wd at *
  generalize signK.getD j 0 = kk at *
  rw [ba_asR hasc]
  have hb0 : Below w.heap.size w (w.alloc (.cells #[.int .i64 k, .int .i64 n, .string t] 43)) := (Below.refl _ _).alloc (Nat.le_refl _) _
  have Hb0 := Lib.hid hb0
  have C1 := Lib.hid c1
  have C2 := Lib.hid c2
  clear hb0 c1 c2 hasc
  go_enter Tryd.func22, Tryd.ntmps22
  go_wp2_with fail
  refine (signs_walk _).mono ?_
  rintro e w1 ⟨rfl, e1⟩
  have c1 := C1.out
  have c2 := C2.out
  have hb1 : Below w.heap.size w w1 := by rw [← e1]; exact (Hb0.out.alloc (by simp) _).alloc (by simp; omega) _
  rw [e1] at c1 c2
  rw [World.size_alloc] at c1 c2 ⊢
  have Hb1 := Lib.hid hb1
  have hj2 : (j : Int) < 25 := by omega
  clear e1 hb1 C1 C2
  go_wp2
  go_quiet (fail)
  go_wp2
  go_ret2
  exact ⟨rfl, Hb1.out.trans ⟨rfl, rfl, rfl, Nat.le_refl _, fun _ _ => rfl⟩⟩


/-! numbers, comments, names -/
theorem foldl_dig_ascii : ∀ (s out : List UInt8), (∀ c ∈ out, 48 ≤ c.toNat ∧ c.toNat ≤ 57) → ∀ c ∈ s.foldl digStep out, 48 ≤ c.toNat ∧ c.toNat ≤ 57
  | [], _, h => h
  | x :: s, out, h => by
    refine foldl_dig_ascii s (digStep out x) ?_
    unfold digStep
    split
    · rename_i hx
      intro c hc
      rcases List.mem_append.1 hc with hc | hc
      · exact h c hc
      · rw [List.mem_singleton.1 hc]; exact hx.1
    · exact h
theorem digN_dec (s : List UInt8) : digN s ≠ [] ∧ ∀ c ∈ digN s, 48 ≤ c.toNat ∧ c.toNat ≤ 57 := by
  unfold digN
  split
  · exact ⟨by simp, fun c hc => by rw [List.mem_singleton.1 hc]; decide⟩
  · rename_i h; exact ⟨h, foldl_dig_ascii s [] (fun c hc => by cases hc)⟩
theorem stripZ_dec : ∀ (l : List UInt8), l ≠ [] → (∀ c ∈ l, 48 ≤ c.toNat ∧ c.toNat ≤ 57) → stripZ l ≠ [] ∧ ∀ c ∈ stripZ l, 48 ≤ c.toNat ∧ c.toNat ≤ 57
  | [], h, _ => absurd rfl h
  | [c], _, h => ⟨by simp [stripZ], h⟩
  | c :: d :: t, _, h => by
    unfold stripZ
    split
    · exact stripZ_dec (d :: t) (by simp) (fun x hx => h x (.tail _ hx))
    · exact ⟨by simp, h⟩
theorem numL_ascii (m : Nat) (s : List UInt8) : ∀ c ∈ numL m s, c.toNat < 128 := by
  obtain ⟨h1, h2⟩ := digN_dec s
  obtain ⟨_, h4⟩ := stripZ_dec _ h1 h2
  have a : ∀ c ∈ digN s, c.toNat < 128 := fun c hc => by have := h2 c hc; omega
  have b : ∀ c ∈ stripZ (digN s), c.toNat < 128 := fun c hc => by have := h4 c hc; omega
  have k1 : ∀ c ∈ ([46] : List UInt8), c.toNat < 128 := by decide
  have k2 : ∀ c ∈ ([101, 45] : List UInt8), c.toNat < 128 := by decide
  have k3 : ∀ c ∈ ([69, 43] : List UInt8), c.toNat < 128 := by decide
  unfold numL
  repeat' split
  all_goals
    intro c hc
    try simp only [List.mem_append] at hc
  · rcases hc with (hc | hc) | hc
    · exact b c hc
    · exact k1 c hc
    · exact a c hc
  · rcases hc with (hc | hc) | hc
    · exact b c hc
    · exact k2 c hc
    · exact a c hc
  · rcases hc with (((hc | hc) | hc) | hc) | hc
    · exact b c hc
    · exact k1 c hc
    · exact a c hc
    · exact k3 c hc
    · exact a c hc
  · exact b c hc

theorem letB_ascii {c : Int} {b : Bool} (h : letB c b = true) : c < 128 := by
  simp only [letB, isLetB, isDecB, Bool.or_eq_true, Bool.and_eq_true, decide_eq_true_eq] at h
  omega
theorem foldl_name_ascii : ∀ (s out : List UInt8), (∀ c ∈ out, c.toNat < 128) → ∀ c ∈ s.foldl nameStep out, c.toNat < 128
  | [], _, h => h
  | x :: s, out, h => by
    refine foldl_name_ascii s (nameStep out x) ?_
    unfold nameStep
    split
    · rename_i hx
      rw [Bool.and_eq_true] at hx
      have hl := letB_ascii hx.1
      intro c hc
      rcases List.mem_append.1 hc with hc | hc
      · exact h c hc
      · rw [List.mem_singleton.1 hc]; omega
    · exact h
theorem nameL_ascii (s : List UInt8) : ∀ c ∈ nameL s, c.toNat < 128 := by
  have h := foldl_name_ascii s [] (fun c hc => by cases hc)
  change ∀ c ∈ name0 s, c.toNat < 128 at h
  have k : ∀ c ∈ ([120] : List UInt8), c.toNat < 128 := by decide
  unfold nameL
  repeat' split
  · intro c hc
    rcases List.mem_append.1 hc with hc | hc
    · exact h c hc
    · exact k c hc
  · exact k
  · exact h

set_option maxHeartbeats 2000000 in
set_option maxRecDepth 100000 in
theorem write2_walk (k n : Int) (t : ByteArray) (mv : Value) (w : World) (hk : modOf 7 k = 2) (ht : t.size ≤ 2147483647) :
    Calls Tryd.prog 22 #[.agg #[.int .i64 k, .int .i64 n, .string t], mv] w fun e w' => e = .returned (.tuple #[.string (BA (asR (numL (modOf 1000 n) t.data.toList))), .int .i64 16]) ∧ Below w.heap.size w w' := by
  have e7 : (wrap64 (k.tmod 7 + 7)).tmod 7 = 2 := by rw [(mod7_spec k).1, hk]; rfl
  obtain ⟨e1000, l1000⟩ := mod1000_spec n
  generalize modOf 1000 n = m at *
  rw [ba_asR (numL_ascii m _)]
  have hT := number_walk m t (w.alloc (.cells #[.int .i64 k, .int .i64 n, .string t] 43)) (by omega) (by omega)
  have HT := Lib.hid hT
  have HB := Lib.hid ((Below.refl w.heap.size w).alloc (Nat.le_refl _) (.cells #[.int .i64 k, .int .i64 n, .string t] 43))
  clear hT
  generalize (⟨(numL m t.data.toList).toArray⟩ : ByteArray) = x at *
  go_enter Tryd.func22, Tryd.ntmps22
  go_wp2_with fail
  refine HT.out.mono ?_
  rintro e w1 ⟨rfl, rfl⟩
  go_wp2
  go_ret2
  exact ⟨rfl, HB.out⟩

set_option maxHeartbeats 2000000 in
set_option maxRecDepth 100000 in
theorem write4_walk (k n : Int) (t : ByteArray) (mv : Value) (w : World) (hk : modOf 7 k = 4) (ht : t.size ≤ 2147483647) :
    Calls Tryd.prog 22 #[.agg #[.int .i64 k, .int .i64 n, .string t], mv] w fun e w' => e = .returned (.tuple #[.string (BA (35 :: commL t)), .int .i64 4]) ∧ Below w.heap.size w w' := by
  have e7 : (wrap64 (k.tmod 7 + 7)).tmod 7 = 4 := by rw [(mod7_spec k).1, hk]; rfl
  obtain ⟨e1000, l1000⟩ := mod1000_spec n
  generalize modOf 1000 n = m at *
  have hT := comment_walk t (w.alloc (.cells #[.int .i64 k, .int .i64 n, .string t] 43)) (by omega)
  have HT := Lib.hid hT
  clear hT
  generalize BA (35 :: commL t) = x at *
  go_enter Tryd.func22, Tryd.ntmps22
  go_wp2_with fail
  refine HT.out.mono ?_
  rintro e w1 ⟨rfl, hb⟩
  have HB := Lib.hid (((Below.refl w.heap.size w).alloc (Nat.le_refl _) (.cells #[.int .i64 k, .int .i64 n, .string t] 43)).trans (hb.mono (by simp)))
  clear hb
  go_wp2
  go_ret2
  exact ⟨rfl, HB.out⟩

set_option maxHeartbeats 2000000 in
set_option maxRecDepth 100000 in
theorem write6_walk (k n : Int) (t : ByteArray) (mv : Value) (w : World) (hk : modOf 7 k = 6) (ht : t.size ≤ 2147483647) :
    Calls Tryd.prog 22 #[.agg #[.int .i64 k, .int .i64 n, .string t], mv] w fun e w' => e = .returned (.tuple #[.string (BA (asR (nameL t.data.toList))), .int .i64 3]) ∧ Below w.heap.size w w' := by
  have e7 : (wrap64 (k.tmod 7 + 7)).tmod 7 = 6 := by rw [(mod7_spec k).1, hk]; rfl
  obtain ⟨e1000, l1000⟩ := mod1000_spec n
  generalize modOf 1000 n = m at *
  rw [ba_asR (nameL_ascii _)]
  have hT := name_walk t (w.alloc (.cells #[.int .i64 k, .int .i64 n, .string t] 43)) (by omega)
  have HT := Lib.hid hT
  clear hT
  generalize (⟨(nameL t.data.toList).toArray⟩ : ByteArray) = x at *
  go_enter Tryd.func22, Tryd.ntmps22
  go_wp2_with fail
  refine HT.out.mono ?_
  rintro e w1 ⟨rfl, hb⟩
  have HB := Lib.hid (((Below.refl w.heap.size w).alloc (Nat.le_refl _) (.cells #[.int .i64 k, .int .i64 n, .string t] 43)).trans (hb.mono (by simp)))
  clear hb
  go_wp2
  go_ret2
  exact ⟨rfl, HB.out⟩

set_option maxHeartbeats 4000000 in
set_option maxRecDepth 100000 in
theorem write5_walk (k n : Int) (t : ByteArray) (mv : Value) (ms : List (List UInt8)) (w : World) (hk : modOf 7 k = 5) (hM : StrsAt mv ms w) (hml : ms.length ≤ 4294967296) :
    Calls Tryd.prog 22 #[.agg #[.int .i64 k, .int .i64 n, .string t], mv] w fun e w' => e = .returned (.tuple #[.string (BA (asR (moreL.getD (modOf 1000 n % 4) []))), .int .i64 (if moreL.getD (modOf 1000 n % 4) [] ∈ ms then moreK.getD (modOf 1000 n % 4) 0 else 3)]) ∧ Below w.heap.size w w' := by
  have e7 : (wrap64 (k.tmod 7 + 7)).tmod 7 = 5 := by rw [(mod7_spec k).1, hk]; rfl
  obtain ⟨e1000, l1000⟩ := mod1000_spec n
  generalize modOf 1000 n = m at *
  have hj : m % 4 < 4 := Nat.mod_lt _ (by decide)
  have ht : (m : Int) % 4 = ((m % 4 : Nat) : Int) := by omega
  generalize m % 4 = j at *
  have hasc := more_ascii j hj
  have c1 := more_cell (w.alloc (.cells #[.int .i64 k, .int .i64 n, .string t] 43)) j hj
  generalize moreL.getD j [] = wd at *
  rw [ba_asR hasc]
  obtain ⟨kk, hkk⟩ : ∃ kk, (if wd ∈ ms then moreK.getD j 0 else 3) = kk := ⟨_, rfl⟩
  rw [hkk]
  have HKK := Lib.hid hkk
  clear hkk
  have hb0 : Below w.heap.size w (w.alloc (.cells #[.int .i64 k, .int .i64 n, .string t] 43)) := (Below.refl _ _).alloc (Nat.le_refl _) _
  obtain ⟨ao, mc, rfl, hM2⟩ := hM
  have HM2 := Lib.hid hM2
  have Hb0 := Lib.hid hb0
  have C1 := Lib.hid c1
  clear hb0 c1 hasc hM2
  have hj2 : (j : Int) < 4 := by omega
  go_enter Tryd.func22, Tryd.ntmps22
  go_wp2_with fail
  refine (more_walk _).mono ?_
  rintro e w1 ⟨rfl, e1⟩
  have c1 := C1.out
  have hb1 : Below w.heap.size w w1 := by rw [← e1]; exact Hb0.out.alloc (by simp) _
  rw [e1] at c1
  rw [World.size_alloc] at c1 ⊢
  have Hb1 := Lib.hid hb1
  clear e1 hb1 C1
  go_wp2
  go_loopg [90] ms.length (fun g i wr => ∃ i2 : Nat, i2 + g = ms.length ∧ i = .int .i64 (i2 : Int) ∧ Hid (wd ∉ ms.take i2) ∧ wr = w1)
  case atStart => exact ⟨0, by simp, rfl, Lib.hid (by simp), rfl⟩
  case round =>
    obtain ⟨i2, hg, rfl, HJ, rfl⟩ := hrel
    cases gk with
    | zero =>
      obtain rfl : i2 = ms.length := by omega
      have hk3 : kk = 3 := by
        have h := HJ.out
        rw [List.take_length] at h
        rw [← HKK.out, if_neg h]
      subst hk3
      go_wp2
      go_ret2
      exact ⟨rfl, Hb1.out⟩
    | succ g =>
      have hi : i2 < ms.length := by omega
      have hi2 : (i2 + 1) + g = ms.length := by omega
      obtain ⟨a, rfl, ha, hc⟩ := HM2.out _ hi
      have hcell : wr.cell? (a.add i2) = some (.string ⟨(ms.getD i2 []).toArray⟩) := (Hb1.out.cell (p := a.add i2) (by rw [Addr.add_block]; exact ha)).trans hc
      have htk : ms.take (i2 + 1) = ms.take i2 ++ [ms.getD i2 []] := by
        rw [List.take_succ_eq_append_getElem hi, List.getD_eq_getElem?_getD, List.getElem?_eq_getElem hi]; rfl
      have HTK := Lib.hid htk
      clear hg htk hc
      by_cases he : ms.getD i2 [] = wd
      · have hin : wd ∈ ms := by
          rw [← he, List.getD_eq_getElem?_getD, List.getElem?_eq_getElem hi]; exact List.getElem_mem _
        have hkk : moreK.getD j 0 = kk := by rw [← HKK.out, if_pos hin]
        rw [he] at hcell
        have hnew : ∀ W : World, (W.alloc (.cells #[.int .i64 40, .int .i64 49, .int .i64 50, .int .i64 51] 3)).cell? ⟨W.heap.size, j, none⟩ = some (.int .i64 kk) := by
          intro W
          have hb := heap_alloc_new W (.cells #[.int .i64 40, .int .i64 49, .int .i64 50, .int .i64 51] 3)
          have hq : (#[.int .i64 40, .int .i64 49, .int .i64 50, .int .i64 51] : Array Value)[j]? = some (.int .i64 kk) := by
            rw [← hkk]
            have : j = 0 ∨ j = 1 ∨ j = 2 ∨ j = 3 := by omega
            rcases this with rfl | rfl | rfl | rfl <;> rfl
          exact cell_row hb j _ hq
        clear he hin hkk
        go_wp2
        go_region
        all_goals
          go_wp2
          go_ret2
          exact ⟨rfl, (Hb1.out.alloc Hb1.out.size _).trans ⟨rfl, rfl, rfl, Nat.le_refl _, fun _ _ => rfl⟩⟩
      · have hq : (ms.getD i2 [] == wd) = false := by simpa using he
        have hstep : wd ∉ ms.take (i2 + 1) := by
          rw [HTK.out, List.mem_append, List.mem_singleton]
          exact fun h => h.elim HJ.out (fun e => he e.symm)
        have HST := Lib.hid hstep
        clear he hstep
        generalize ms.getD i2 [] = cur at *
        go_wp2_with fail
        go_roundg g
        case measure => omega
        case rel => exact ⟨i2 + 1, hi2, by go_num, HST, rfl⟩

/-- spec.Write, at whatever piece. -/
theorem write_walk (k n : Int) (t : ByteArray) (mv : Value) (ms : List (List UInt8)) (w : World) (hM : StrsAt mv ms w) (hml : ms.length ≤ 4294967296) (ht : t.size ≤ 2147483647) :
    Calls Tryd.prog 22 #[.agg #[.int .i64 k, .int .i64 n, .string t], mv] w fun e w' => e = .returned (.tuple #[.string (BA (writeR k n t)), .int .i64 (writeK k n ms)]) ∧ Below w.heap.size w w' := by
  have h7 := (mod7_spec k).2
  have : modOf 7 k = 0 ∨ modOf 7 k = 1 ∨ modOf 7 k = 2 ∨ modOf 7 k = 3 ∨ modOf 7 k = 4 ∨ modOf 7 k = 5 ∨ modOf 7 k = 6 := by omega
  unfold writeR writeK
  rcases this with h | h | h | h | h | h | h
  · rw [h]; exact write0_walk k n t mv w h
  · rw [h]; exact write1_walk k n t mv w h
  · rw [h]; exact write2_walk k n t mv w h ht
  · rw [h]; exact write3_walk k n t mv w h ht
  · rw [h]; exact write4_walk k n t mv w h ht
  · rw [h]; exact write5_walk k n t mv ms w h hM hml
  · rw [h]; exact write6_walk k n t mv w h ht

end Go.Proofs.YtplljfbbipeakaaDoor
