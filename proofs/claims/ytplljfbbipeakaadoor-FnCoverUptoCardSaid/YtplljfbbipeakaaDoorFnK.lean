/- laws.FnKeyword, walked. -/
import Derived.Test.YtplljfbbipeakaaDoorImp1
import Derived.Test.YtplljfbbipeakaaDoorSpM
namespace Go.Proofs.YtplljfbbipeakaaDoor
open Go Go.RowKit Go.Maps Go.WideMaps Go.WideElems

/-- The keywords by default. -/
def kh0 : List UInt8 → Bool := fun l => decide (l ∈ wordL)
def kt0 : List UInt8 → Int := fun l => if l ∈ wordL then ((wordL.idxOf l : Nat) : Int) + 5 else 3

theorem kt0_ok : KtOk kt0 := by
  intro l
  unfold kt0
  split
  · rename_i h
    have := List.idxOf_lt_length_iff.2 h
    have e : wordL.length = 11 := rfl
    omega
  · decide

/-- What the loop over the words finds: kind, whether. -/
def findK (s : List UInt8) (k : Nat) : Int := if s ∈ wordL.take k then ((wordL.idxOf s : Nat) : Int) + 5 else 3

theorem findK_hit : ∀ k, k < 11 → findK (wordL.getD k []) (k + 1) = ((k + 5 : Nat) : Int) ∧ wordL.getD k [] ∈ wordL.take (k + 1) := by decide
theorem take_word (k : Nat) (h : k < 11) : wordL.take (k + 1) = wordL.take k ++ [wordL.getD k []] := by
  have e : wordL.length = 11 := rfl
  rw [List.take_succ_eq_append_getElem (by omega), List.getD_eq_getElem?_getD, List.getElem?_eq_getElem (by omega)]; rfl
theorem findK_miss {s : List UInt8} {k : Nat} (h : k < 11) (hne : s ≠ wordL.getD k []) : findK s (k + 1) = findK s k ∧ decide (s ∈ wordL.take (k + 1)) = decide (s ∈ wordL.take k) := by
  have hm : s ∈ wordL.take (k + 1) ↔ s ∈ wordL.take k := by
    rw [take_word k h, List.mem_append, List.mem_singleton]
    exact ⟨fun hx => hx.elim id (fun e => absurd e hne), Or.inl⟩
  refine ⟨?_, decide_eq_decide.2 hm⟩
  unfold findK
  by_cases hx : s ∈ wordL.take k
  · rw [if_pos hx, if_pos (hm.2 hx)]
  · rw [if_neg hx, if_neg (fun hy => hx (hm.1 hy))]
theorem findK_all (s : List UInt8) : findK s 11 = kwTok kh0 kt0 s ∧ decide (s ∈ wordL.take 11) = kh0 s := by
  have e : wordL.take 11 = wordL := rfl
  refine ⟨?_, by rw [e]; rfl⟩
  unfold findK kwTok kh0 kt0
  rw [e]
  by_cases h : s ∈ wordL
  · rw [if_pos h, if_pos (decide_eq_true h)]
  · rw [if_neg h, if_neg (by simpa using h)]

theorem beq_ne {a b : List UInt8} (h : a ≠ b) : (a == b) = false := by simpa using h

set_option maxHeartbeats 4000000 in
set_option maxRecDepth 100000 in
theorem fnKeyword_walk (l : List UInt8) (w : World) (hB : Base w.heap.size kh0 kt0 w) (hs : l.length ≤ maxLen) :
    Calls Tryd.prog 10 #[.string ⟨l.toArray⟩] w fun e w' => e = .returned (.bool true) ∧ Below w.heap.size w w' := by
  by_cases hbig : 2147483647 < l.length
  · have hb : (2147483647 : Int) < (l.length : Int) := by omega
    clear hbig
    go_enter Tryd.func10, Tryd.ntmps10
    go_wp2
    go_ret
    exact ⟨rfl, Below.refl _ _⟩
  · have hb : ¬ (2147483647 : Int) < (l.length : Int) := by omega
    have HB := Lib.hid hB
    clear hB
    go_enter Tryd.func10, Tryd.ntmps10
    go_wp2_with fail
    refine (words_walk w).mono ?_
    rintro e w1 ⟨rfl, e1⟩
    have hB1 : Below w.heap.size w w1 := by rw [← e1]; exact ((Below.refl _ _).alloc (Nat.le_refl _) _).alloc (by simp) _
    have hw1 : ∀ m, m < 11 → w1.cell? ⟨w.heap.size, m, none⟩ = some (.string ⟨(wordL.getD m []).toArray⟩) := fun m h => by rw [← e1]; exact word_cell w m h
    have hk1 : ∀ m, m < 11 → w1.cell? ⟨w.heap.size + 1, m, none⟩ = some (.int .i64 (m + 5 : Nat)) := fun m h => by rw [← e1]; exact kind_cell w m h
    have HB1 := Lib.hid hB1
    have HW1 := Lib.hid hw1
    have HK1 := Lib.hid hk1
    clear e1 hB1 hw1 hk1
    go_wp2_with fail
    go_loopg [5, 6, 20] 11 (fun g a b i wr => ∃ k : Nat, k + g = 11 ∧ i = .int .i64 (k : Int) ∧ a = .int .i64 (findK l k) ∧ b = .bool (decide (l ∈ wordL.take k)) ∧ wr = w1)
    case atStart => exact ⟨0, rfl, rfl, rfl, rfl, rfl⟩
    case round =>
      obtain ⟨k, hg, rfl, rfl, rfl, rfl⟩ := hrel
      cases gk with
      | zero =>
        obtain rfl : k = 11 := by omega
        have ha := findK_all l
        rw [ha.1, ha.2]
        clear ha
        generalize hkv : kwTok kh0 kt0 l = kv
        generalize hkb : kh0 l = kb
        have HKV := Lib.hid hkv
        have HKB := Lib.hid hkb
        clear hkv hkb
        go_wp2_with fail
        refine (more_walk wr).mono ?_
        rintro e w2 ⟨rfl, e2⟩
        have hB2 : Below w.heap.size w w2 := by rw [← e2]; exact HB1.out.alloc HB1.out.size _
        have hm2 : ∀ m, m < 4 → w2.cell? ⟨wr.heap.size, m, none⟩ = some (.string ⟨(moreL.getD m []).toArray⟩) := fun m h => by rw [← e2]; exact more_cell wr m h
        have HB2 := Lib.hid hB2
        have HM2 := Lib.hid hm2
        have hBB2 := Base.mono (HB.out.below hB2) (B' := w2.heap.size) hB2.size (Nat.le_refl _)
        have HBB2 := Lib.hid hBB2
        clear e2 hB2 hm2 hBB2
        go_wp2_with fail
        go_loopg [35] 4 (fun g i wr2 => ∃ j : Nat, j + g = 4 ∧ i = .int .i64 (j : Int) ∧ wr2 = w2)
        case atStart => exact ⟨0, rfl, rfl, rfl⟩
        case round =>
          obtain ⟨j, hg2, rfl, rfl⟩ := hrel
          cases gk with
          | zero =>
            obtain rfl : j = 4 := by omega
            have hwk := works_walk HBB2.out kt0_ok (by decide)
            have HWK := Lib.hid hwk
            clear hwk
            go_wp2_with fail
            refine HWK.out.mono ?_
            rintro e w3 ⟨rfl, hb3⟩
            have hbb3 := HBB2.out.below hb3
            have hbb3 := Base.mono hbb3 hb3.size (Nat.le_refl _)
            have hkw := Keyword_walk (s := ⟨l.toArray⟩) hbb3 (by show l.toArray.size ≤ _; simpa using hs) kt0_ok
            have e3 : (⟨l.toArray⟩ : ByteArray).data.toList = l := by simp
            rw [e3, HKV.out] at hkw
            have hb3' : Below w.heap.size w w3 := HB2.out.trans (hb3.mono HB2.out.size)
            have HKW := Lib.hid hkw
            have HBB3 := Lib.hid hbb3
            have HB3 := Lib.hid hb3'
            clear hb3 hbb3 hkw hb3' e3
            go_wp2_with fail
            refine HKW.out.mono ?_
            rintro e w4 ⟨rfl, hb4⟩
            have hbb4 := HBB3.out.below hb4
            have hbb4 := Base.mono hbb4 hb4.size (Nat.le_refl _)
            have hik := IsKeyword_walk (s := ⟨l.toArray⟩) hbb4 (by show l.toArray.size ≤ _; simpa using hs)
            rw [show (⟨l.toArray⟩ : ByteArray).data.toList = l by simp, HKB.out] at hik
            have hb4' : Below w.heap.size w w4 := HB3.out.trans (hb4.mono HB3.out.size)
            have HIK := Lib.hid hik
            have HB4 := Lib.hid hb4'
            clear hb4 hbb4 hik hb4'
            go_wp2_with fail
            refine HIK.out.mono ?_
            rintro e w5 ⟨rfl, hb5⟩
            have HB5 := Lib.hid (HB4.out.trans (hb5.mono HB4.out.size))
            clear hb5
            go_wp2
            go_ret
            exact ⟨rfl, HB5.out⟩
          | succ g =>
            have hj : j < 4 := by omega
            have hj2 : (j + 1) + g = 4 := by omega
            have c1 := HM2.out j hj
            clear hg2
            by_cases he : moreL.getD j [] = l
            · rw [he] at c1
              have hwk := works_walk HBB2.out kt0_ok (by decide)
              have HWK := Lib.hid hwk
              clear he hwk
              go_wp2_with fail
              refine HWK.out.mono ?_
              rintro e w3 ⟨rfl, hb3⟩
              have HB3 := Lib.hid hb3
              clear hb3
              go_wp2
              go_ret
              exact ⟨rfl, HB2.out.trans (HB3.out.mono HB2.out.size)⟩
            · have hq := beq_ne he
              clear he
              generalize moreL.getD j [] = cur at *
              go_wp2_with fail
              go_roundg g
              case measure => omega
              case rel => exact ⟨j + 1, hj2, by go_num, rfl⟩
      | succ g =>
        have hk : k < 11 := by omega
        have hk2 : (k + 1) + g = 11 := by omega
        have c1 := HW1.out k hk
        have c2 := HK1.out k hk
        clear hg
        by_cases he : wordL.getD k [] = l
        · have hh := findK_hit k hk
          rw [he] at hh
          rw [he] at c1
          have HH := Lib.hid hh
          clear he hh
          go_wp2_with fail
          go_roundg g
          case measure => omega
          case rel => exact ⟨k + 1, hk2, by go_num, congrArg _ HH.out.1.symm, congrArg _ (decide_eq_true HH.out.2).symm, rfl⟩
        · have hm := findK_miss (s := l) (k := k) hk (Ne.symm he)
          have HMI := Lib.hid hm
          have hq := beq_ne he
          clear he hm
          generalize wordL.getD k [] = cur at *
          go_wp2_with fail
          go_roundg g
          case measure => omega
          case rel => exact ⟨k + 1, hk2, by go_num, congrArg _ HMI.out.1.symm, congrArg _ HMI.out.2.symm, rfl⟩

end Go.Proofs.YtplljfbbipeakaaDoor
