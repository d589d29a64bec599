/- laws.FnWords, walked. -/
import Derived.Test.YtplljfbbipeakaaDoorWords
import Derived.Deep.LoopGhost
namespace Go.Proofs.YtplljfbbipeakaaDoor
open Go Go.RowKit Go.Maps Go.WideMaps Go.WideElems

theorem quiet_left {P : Program} {f : FuncId} {args : Array Value} {w : World} {n : Nat} {v : Value}
    (h : Calls P f args (w.drewN n) fun e w' => e = .returned v ∧ w.drewN n = w') : Calls P f args (w.drewN n) fun e w'' => e = .returned v ∧ ∃ m, w'' = w.drewN m :=
  h.mono fun _ _ ⟨he, hm⟩ => ⟨he, n, hm.symm⟩
theorem quiet_drew {P : Program} {f : FuncId} {args : Array Value} {w : World} {n : Nat} {v : Value}
    (h : Calls P f args (w.drewN n) fun e w' => e = .returned v ∧ ∃ q, w' = (w.drewN n).drewN q) : Calls P f args (w.drewN n) fun e w'' => e = .returned v ∧ ∃ m, w'' = w.drewN m :=
  h.mono fun _ _ ⟨he, q, hm⟩ => ⟨he, n + q, by rw [hm, World.drewN_drewN]⟩

theorem mod11 (n : Int) (hlo : -9223372036854775808 ≤ n) (hhi : n ≤ 9223372036854775807) : ∃ m : Nat, m < 11 ∧ (wrap64 (n.tmod 11 + 11)).tmod 11 = (m : Int) := by
  have h1 : -11 < n.tmod 11 := Int.lt_tmod_of_pos n (by decide)
  have h2 : n.tmod 11 < 11 := Int.tmod_lt_of_pos n (by decide)
  rw [IntWalk.wrap64_in _ ⟨by omega, by omega⟩]
  refine ⟨(n.tmod 11 + 11).toNat % 11, Nat.mod_lt _ (by decide), ?_⟩
  rw [Int.tmod_eq_emod_of_nonneg (by omega)]
  omega

/-- The cells of an owned row of strings. -/
theorem strs_cell {w : World} {base g n cap : Nat} {l : List (List UInt8)} (h : w.ownsRow base 9 1 (.slice (some ⟨g, 0, none⟩) n cap) n (l.map encStr)) (i : Nat) (hi : i < l.length) :
    w.cell? ⟨g, i, none⟩ = some (.string ⟨(l.getD i []).toArray⟩) := by
  have := h.cells (g := g) rfl i (encStr (l.getD i [])) (by rw [List.getElem?_map, List.getD_eq_getElem?_getD, List.getElem?_eq_getElem hi]; rfl)
  have ha : (⟨g, 0, none⟩ : Addr).add i = ⟨g, i, none⟩ := by
    unfold Addr.add; split
    · subst_vars; rfl
    · simp
  rw [ha] at this
  exact this

set_option maxHeartbeats 2000000 in
set_option maxRecDepth 100000 in
theorem fnWords_walk {H : Type} (n : Int) (hlo : -9223372036854775808 ≤ n) (hhi : n ≤ 9223372036854775807) (w : World) (b k : Nat) (D0 : DataW H) (tokS : List (List UInt8))
    (hg : w.cell? ⟨0, 0, none⟩ = some (.map (some b))) (hown : w.ownsMap Tryd.prog 9 (plainElem Tryd.prog 55) b k D0) (hsz : Maps.size D0 ≤ 1000) (hkl : (strKeys D0).length ≤ 1000)
    (hS : ∀ i, i < 54 → w.cell? ⟨1, i, none⟩ = some (.string ⟨(tokS.getD i []).toArray⟩))
    (hT : ∀ m, m < 11 → tokS.getD (m + 5) [] = wordL.getD m []) (hm : ∀ m, m < 11 → has D0 (.string (wordL.getD m [])) = true ∧ wordL.getD m [] ∈ strKeys D0)
    (hid : has D0 (.string (tokS.getD 3 [])) = false) (hlen : ∀ i, i < 54 → (tokS.getD i []).length ≤ 100) :
    Calls Tryd.prog 3 #[.int .i64 n] w fun e w' => e = .returned (.bool true) ∧ Below w.heap.size w w' := by
  have lg := World.block_lt_of_cell? w _ hg
  have hbl := hown.lt
  obtain ⟨m, hm11, em⟩ := mod11 n hlo hhi
  go_enter Tryd.func3, Tryd.ntmps3
  go_wp2_with fail
  refine (words_walk w).mono ?_
  rintro e w1 ⟨rfl, e1⟩
  have hB1 : Below w.heap.size w w1 := by rw [← e1]; exact ((Below.refl _ _).alloc (Nat.le_refl _) _).alloc (by simp) _
  have hw1 : ∀ m, m < 11 → w1.cell? ⟨w.heap.size, m, none⟩ = some (.string ⟨(wordL.getD m []).toArray⟩) := fun m h => by rw [← e1]; exact word_cell w m h
  have hk1 : ∀ m, m < 11 → w1.cell? ⟨w.heap.size + 1, m, none⟩ = some (.int .i64 (m + 5 : Nat)) := fun m h => by rw [← e1]; exact kind_cell w m h
  have HB1 := Lib.hid hB1
  have HW1 := Lib.hid hw1
  have HK1 := Lib.hid hk1
  have HS := Lib.hid hS
  have HT := Lib.hid hT
  have HM := Lib.hid hm
  have HI := Lib.hid hid
  have HL := Lib.hid hlen
  have HG := Lib.hid hg
  have HO := Lib.hid hown
  clear e1 hB1 hw1 hk1 hS hT hm hid hlen hg hown
  go_wp2_with fail
  refine (implKeywords_walk b k D0 w1 ((HB1.out.cell (p := ⟨0, 0, none⟩) lg).trans HG.out) (by obtain ⟨es, clock, hb, F, h1, h2⟩ := HO.out; exact ⟨es, clock, (HB1.out.block b hbl).trans hb, F, h1, h2⟩) hsz (fun e => by have := (HM.out 0 (by omega)).2; rw [e] at this; cases this)).mono ?_
  rintro e w2 ⟨g, cap, ss, rfl, hperm, hrow, hb2⟩
  have hB2 : Below w.heap.size w w2 := HB1.out.trans (hb2.mono HB1.out.size)
  have l1 := World.block_lt_of_cell? w1 _ (HW1.out m hm11)
  have l2 := World.block_lt_of_cell? w1 _ (HK1.out m hm11)
  have cw : w2.cell? ⟨w.heap.size, m, none⟩ = some (.string ⟨(wordL.getD m []).toArray⟩) := (hb2.cell (p := ⟨w.heap.size, m, none⟩) l1).trans (HW1.out m hm11)
  have ck : w2.cell? ⟨w.heap.size + 1, m, none⟩ = some (.int .i64 (m + 5 : Nat)) := (hb2.cell (p := ⟨w.heap.size + 1, m, none⟩) l2).trans (HK1.out m hm11)
  have hsrt : (ss.mergeSort (fun x y => decide (x ≤ y))).Perm ss := List.mergeSort_perm ss _
  have hin : wordL.getD m [] ∈ ss.mergeSort (fun x y => decide (x ≤ y)) := hsrt.mem_iff.2 (hperm.mem_iff.2 (HM.out m hm11).2)
  have hsl : (ss.mergeSort (fun x y => decide (x ≤ y))).length = ss.length := hsrt.length_eq
  have hsl2 : ss.length ≤ 1000 := by rw [hperm.length_eq]; exact hkl
  generalize ss.mergeSort (fun x y => decide (x ≤ y)) = srt at *
  have hcell : ∀ i, i < srt.length → w2.cell? ⟨g, i, none⟩ = some (.string ⟨(srt.getD i []).toArray⟩) := fun i hi => strs_cell (n := ss.length) hrow i hi
  rw [← hsl]
  rw [← hsl] at hsl2
  have HC := Lib.hid hcell
  have HB2 := Lib.hid hB2
  have HIN := Lib.hid hin
  clear hcell hB2 hin hrow hperm hsrt hsl hb2
  generalize hwd : wordL.getD m [] = wd at *
  have HWD := Lib.hid hwd
  clear hwd
  go_wp2_with fail
  go_loopg [5, 24] srt.length (fun k v i wr => k ≤ srt.length ∧ i = .int .i64 ((srt.length - k : Nat) : Int) ∧ v = .bool (decide (wd ∈ srt.take (srt.length - k))) ∧ wr = w2)
  case atStart => exact ⟨Nat.le_refl _, by simp, by simp, rfl⟩
  case round =>
    obtain ⟨hk, rfl, hv, rfl⟩ := hrel
    cases gk with
    | zero =>
      have hd : decide (wd ∈ List.take (srt.length - 0) srt) = true := by
        rw [Nat.sub_zero, List.take_length]; exact decide_eq_true HIN.out
      rw [hd] at hv
      subst hv
      clear hd
      have lgw : 0 < w.heap.size := lg
      have s5 := HS.out (m + 5) (by omega)
      rw [HT.out m hm11, HWD.out] at s5
      have hl5 := HL.out (m + 5) (by omega)
      rw [HT.out m hm11, HWD.out] at hl5
      have l1 := World.block_lt_of_cell? w _ s5
      have q1 : wr.cell? ⟨1, m + 5, none⟩ = some (.string ⟨wd.toArray⟩) := (HB2.out.cell (p := ⟨1, m + 5, none⟩) l1).trans s5
      have q3 : wr.cell? ⟨1, 3, none⟩ = some (.string ⟨(tokS.getD 3 []).toArray⟩) := (HB2.out.cell (p := ⟨1, 3, none⟩) l1).trans (HS.out 3 (by omega))
      have q0 : wr.cell? ⟨0, 0, none⟩ = some (.map (some b)) := (HB2.out.cell (p := ⟨0, 0, none⟩) lg).trans HG.out
      have hwr : wr.ownsMap Tryd.prog 9 (plainElem Tryd.prog 55) b k D0 := by obtain ⟨es, clock, hb, F, h1, h2⟩ := HO.out; exact ⟨es, clock, (HB2.out.block b hbl).trans hb, F, h1, h2⟩
      have hl3 := HL.out 3 (by omega)
      have hid := HI.out
      have hwh := (HM.out m hm11).1
      rw [HWD.out] at hwh
      have r1 : ∀ q, Calls Tryd.prog 13 #[.int .i64 ((m : Int) + 5)] (wr.drewN q) fun e w' => e = .returned (.string ⟨wd.toArray⟩) ∧ wr.drewN q = w' := fun q => keywordFor_walk _ _ _ (by omega) (by omega) (by rw [show ((m : Int) + 5).toNat = m + 5 from by omega]; exact q1)
      have r2 : ∀ q, Calls Tryd.prog 14 #[.int .i64 ((m : Int) + 5)] (wr.drewN q) fun e w' => e = .returned (.bool true) ∧ ∃ p, w' = (wr.drewN q).drewN p := fun q => by
        have := isKeywordKind_walk (H := H) ((m : Int) + 5) ⟨wd.toArray⟩ (wr.drewN q) b k D0 (by omega) (by omega) (by rw [show ((m : Int) + 5).toNat = m + 5 from by omega]; exact q1) (by show wd.toArray.size ≤ _; simp; unfold maxLen; omega) q0 hwr
        simp only [hwh] at this
        exact this
      have r3 : ∀ q, Calls Tryd.prog 14 #[.int .i64 3] (wr.drewN q) fun e w' => e = .returned (.bool false) ∧ ∃ p, w' = (wr.drewN q).drewN p := fun q => by
        have := isKeywordKind_walk (H := H) 3 ⟨(tokS.getD 3 []).toArray⟩ (wr.drewN q) b k D0 (by omega) (by omega) q3 (by show (tokS.getD 3 []).toArray.size ≤ _; simp only [List.size_toArray]; unfold maxLen; omega) q0 hwr
        simp only [hid] at this
        exact this
      have R1 := Lib.hid r1
      have R2 := Lib.hid r2
      have R3 := Lib.hid r3
      have i0 : (0 : Int) ≤ (m : Int) := by omega
      have i1 : (m : Int) < 11 := by omega
      have ck' : wr.cell? ⟨w.heap.size + 1, m, none⟩ = some (.int .i64 ((m : Int) + 5)) := ck
      clear ck
      clear r1 r2 r3 q1 q3 q0 hwr hl3 hid hwh s5 hl5
      go_wp2_with fail
      go_quiet ((first | (go_at_call 13; exact quiet_left (R1.out _)) | (go_at_call_of 14 (Value.int IntKind.i64 3); exact quiet_drew (R3.out _)) | (go_at_call 14; exact quiet_drew (R2.out _))))
      go_wp2
      go_ret
      exact ⟨rfl, HB2.out.trans ⟨rfl, rfl, rfl, Nat.le_refl _, fun _ _ => rfl⟩⟩
    | succ k =>
      have hc : wr.cell? ⟨g, srt.length - (k + 1), none⟩ = some (.string ⟨(srt.getD (srt.length - (k + 1)) []).toArray⟩) := HC.out _ (by omega)
      have htk : srt.take (srt.length - k) = srt.take (srt.length - (k + 1)) ++ [srt.getD (srt.length - (k + 1)) []] := by
        rw [show srt.length - k = (srt.length - (k + 1)) + 1 from by omega, List.take_add_one, List.getD_eq_getElem?_getD, List.getElem?_eq_getElem (by omega)]
        rfl
      have hdk : decide (wd ∈ srt.take (srt.length - k)) = (decide (wd ∈ srt.take (srt.length - (k + 1))) || decide (srt.getD (srt.length - (k + 1)) [] = wd)) := by
        rw [htk, ← Bool.decide_or]
        congr 1
        rw [List.mem_append, List.mem_singleton]
        exact propext ⟨fun h => h.imp_right Eq.symm, fun h => h.imp_right Eq.symm⟩
      generalize srt.getD (srt.length - (k + 1)) [] = cur at *
      generalize decide (wd ∈ srt.take (srt.length - (k + 1))) = had at *
      subst hv
      have hi2 : ((srt.length - (k + 1) : Nat) : Int) + 1 = ((srt.length - k : Nat) : Int) := by omega
      rcases had with _ | _
      · go_wp2_with fail
        go_roundg k
        case measure => omega
        case rel =>
          refine ⟨by omega, rfl, ?_, rfl⟩
          rw [hdk, Bool.false_or]
          exact congrArg Value.bool (by rw [Bool.eq_iff_iff]; simp)
      · go_wp2_with fail
        go_roundg k
        case measure => omega
        case rel =>
          refine ⟨by omega, rfl, ?_, rfl⟩
          rw [hdk, Bool.true_or]

end Go.Proofs.YtplljfbbipeakaaDoor
