/- zzFits1, zzFits3 (what is not too long), spec.FitMore, walked. -/
import Derived.Test.YtplljfbbipeakaaDoorPl3
import Derived.Outline
import Derived.Test.YtplljfbbipeakaaDoorLayB
namespace Go.Proofs.YtplljfbbipeakaaDoor
open Go Go.RowKit Go.Maps Go.WideMaps Go.WideElems

set_option maxHeartbeats 2000000 in
set_option maxRecDepth 100000 in
theorem zzFits1_walk {pv : Value} {ps : List PV} {w : World} (hP : PiecesAt pv ps w) (hl : ps.length ≤ 2147483647) (ht : ∀ p ∈ ps, p.t.size ≤ 2147483647) :
    Calls Tryd.prog 15 #[pv] w fun e w' => e = .returned (.bool true) ∧ Below w.heap.size w w' := by
  obtain ⟨ao, c, rfl, hP2⟩ := hP
  have HP := Lib.hid hP2
  have HT := Lib.hid ht
  have hl2 : ¬ (2147483647 : Int) < (ps.length : Int) := by omega
  clear hP2 ht
  go_enter Tryd.func15, Tryd.ntmps15
  go_wp2
  go_loopg [10] ps.length (fun g i wr => ∃ k : Nat, k + g = ps.length ∧ i = .int .i64 (k : Int) ∧ Below w.heap.size w wr)
  case atStart => exact ⟨0, by simp, rfl, Below.refl _ _⟩
  case round =>
    obtain ⟨k, hg, rfl, hB⟩ := hrel
    have HB := Lib.hid hB
    clear hB
    cases gk with
    | zero =>
      obtain rfl : k = ps.length := by omega
      go_wp2
      go_ret
      exact ⟨rfl, HB.out⟩
    | succ g =>
      have hk : k < ps.length := by omega
      have hk2 : (k + 1) + g = ps.length := by omega
      obtain ⟨b, o, rfl, hbl, d0, d1, d2⟩ := HP.out k hk
      have hpt := HT.out (ps.getD k ⟨0, 0, ⟨#[]⟩⟩) (by rw [List.getD_eq_getElem?_getD, List.getElem?_eq_getElem hk]; exact List.getElem_mem hk)
      generalize ps.getD k ⟨0, 0, ⟨#[]⟩⟩ = p at *
      obtain ⟨pk, pn, pt⟩ := p
      simp only at d0 d1 d2 hpt
      have e0 : wr.cell? ⟨b, o + k * 3, none⟩ = some (.int .i64 pk) := (HB.out.cell (p := ⟨b, _, none⟩) hbl).trans d0
      have e1 : wr.cell? ⟨b, o + k * 3 + 1, none⟩ = some (.int .i64 pn) := (HB.out.cell (p := ⟨b, _, none⟩) hbl).trans d1
      have e2 : wr.cell? ⟨b, o + k * 3 + 2, none⟩ = some (.string pt) := (HB.out.cell (p := ⟨b, _, none⟩) hbl).trans d2
      have hfp : fitsP pt = true := decide_eq_true hpt
      have HZ := Lib.hid (fun W : World => zzFits2_walk pk pn pt W (by unfold maxLen; omega))
      have HF := Lib.hid hfp
      have hsz : w.heap.size ≤ wr.heap.size := HB.out.size
      have hba := HB.out.alloc hsz (.cells #[.int .i64 pk, .int .i64 pn, .string pt] 43)
      have HBA := Lib.hid hba
      clear hg d0 d1 d2 hpt hfp hba
      go_wp2_with fail
      refine (HZ.out _).mono ?_
      rintro e w1 ⟨rfl, hb1⟩
      rw [HF.out]
      have hb2 := HBA.out.trans (hb1.mono (by rw [World.size_alloc]; omega))
      have HB2 := Lib.hid hb2
      clear hb1 hb2
      go_wp2
      go_roundg g
      case measure => omega
      case rel => exact ⟨k + 1, hk2, by go_num, HB2.out⟩

set_option maxHeartbeats 2000000 in
set_option maxRecDepth 100000 in
theorem zzFits3_walk {mv : Value} {ms : List (List UInt8)} {w : World} (hM : StrsAt mv ms w) (hl : ms.length ≤ 2147483647) (ht : ∀ m ∈ ms, m.length ≤ 2147483647) :
    Calls Tryd.prog 16 #[mv] w fun e w' => e = .returned (.bool true) ∧ w' = w := by
  obtain ⟨ao, c, rfl, hM2⟩ := hM
  have HM := Lib.hid hM2
  have HT := Lib.hid ht
  have hl2 : ¬ (2147483647 : Int) < (ms.length : Int) := by omega
  clear hM2 ht
  go_enter Tryd.func16, Tryd.ntmps16
  go_wp2
  go_loopg [10] ms.length (fun g i wr => ∃ k : Nat, k + g = ms.length ∧ i = .int .i64 (k : Int) ∧ wr = w)
  case atStart => exact ⟨0, by simp, rfl, rfl⟩
  case round =>
    obtain ⟨k, hg, rfl, rfl⟩ := hrel
    cases gk with
    | zero =>
      obtain rfl : k = ms.length := by omega
      go_wp2
      go_ret
      exact ⟨rfl, rfl⟩
    | succ g =>
      have hk : k < ms.length := by omega
      have hk2 : (k + 1) + g = ms.length := by omega
      obtain ⟨a, rfl, ha, hc⟩ := HM.out _ hk
      have hpt := HT.out (ms.getD k []) (by rw [List.getD_eq_getElem?_getD, List.getElem?_eq_getElem hk]; exact List.getElem_mem hk)
      generalize ms.getD k [] = m at *
      have hn : ¬ (2147483647 : Int) < (m.length : Int) := by omega
      clear hg hpt ha
      go_wp2
      go_roundg g
      case measure => omega
      case rel => exact ⟨k + 1, hk2, by go_num, rfl⟩

def hitW (wd x : List UInt8) : Prop := x = wd ∨ (wd = wIn ∧ x = wEvery)
theorem fitP_hit {X : List (List UInt8)} {wd x : List UInt8} (h : x ∈ X) (hh : hitW wd x) : fitP X wd = true := by
  unfold fitP
  rcases hh with rfl | ⟨rfl, rfl⟩
  · rw [decide_eq_true h]; rfl
  · rw [decide_eq_true h]; simp
theorem fitP_miss {X : List (List UInt8)} {wd : List UInt8} (h : ∀ x ∈ X, ¬ hitW wd x) : fitP X wd = false := by
  unfold fitP
  rw [Bool.or_eq_false_iff, decide_eq_false_iff_not, Bool.and_eq_false_iff, decide_eq_false_iff_not, decide_eq_false_iff_not]
  refine ⟨fun hm => h wd hm (Or.inl rfl), ?_⟩
  by_cases hw : wd = wIn
  · exact Or.inr fun hm => h wEvery hm (Or.inr ⟨hw, rfl⟩)
  · exact Or.inl hw
def fitK (X : List (List UInt8)) (k : Nat) : List (List UInt8) := (moreL.take k).filter (fitP X)
theorem fitK_step {X : List (List UInt8)} {k : Nat} (h : k < 4) : fitK X (k + 1) = fitK X k ++ if fitP X (moreL.getD k []) = true then [moreL.getD k []] else [] := by
  have e : moreL.take (k + 1) = moreL.take k ++ [moreL.getD k []] := by
    rw [List.take_succ_eq_append_getElem (by simpa [moreL] using h), List.getD_eq_getElem?_getD, List.getElem?_eq_getElem (by simpa [moreL] using h)]; rfl
  unfold fitK
  rw [e, List.filter_append, List.filter_cons]; rfl
theorem fitK_le (X : List (List UInt8)) (k : Nat) : (fitK X k).length ≤ 4 := by
  unfold fitK
  have h1 := List.length_filter_le (fitP X) (moreL.take k)
  have h2 : (moreL.take k).length ≤ 4 := by rw [List.length_take]; exact Nat.min_le_right _ _
  omega
theorem strsAt_own {w : World} {B : Nat} {v : Value} {L : List (List UInt8)} (h : w.ownsRow B 9 1 v L.length (L.map strV)) : StrsAt v L w := by
  rcases h.2 with ⟨rfl, h0⟩ | ⟨g, cap, cur, rfl, hg, hh, r⟩
  · have : L = [] := List.length_eq_zero_iff.1 h0
    subst this; exact StrsAt.nil w
  · refine ⟨some ⟨g, 0, none⟩, cap, rfl, fun j hj => ⟨⟨g, 0, none⟩, rfl, lt_of_block hh, ?_⟩⟩
    have hu : (L.map strV)[j]? = some (.string ⟨(L.getD j []).toArray⟩) := by
      rw [List.getElem?_map, List.getElem?_eq_getElem hj, List.getD_eq_getElem?_getD, List.getElem?_eq_getElem hj]; rfl
    exact h.cells (g := g) rfl j _ hu

set_option maxHeartbeats 4000000 in
set_option maxRecDepth 100000 in
theorem fitMore_walk {mv : Value} {X : List (List UInt8)} {w : World} (hM : StrsAt mv X w) (hl : X.length ≤ 4294967296) :
    Calls Tryd.prog 17 #[mv] w fun e w' => ∃ v, e = .returned v ∧ StrsAt v (fitL X) w' ∧ Below w.heap.size w w' := by
  obtain ⟨i0, hi, hz0, hz1, hz2⟩ := info_parts info9
  obtain ⟨ao, mc, rfl, hM2⟩ := hM
  have HM := Lib.hid hM2
  clear hM2
  go_enter Tryd.func17, Tryd.ntmps17
  go_wp2_with fail
  refine (more_walk w).mono ?_
  rintro e w1 ⟨rfl, e1⟩
  have hB1 : Below w.heap.size w w1 := by rw [← e1]; exact (Below.refl _ _).alloc (Nat.le_refl _) _
  have hw1 : ∀ m, m < 4 → w1.cell? ⟨w.heap.size, m, none⟩ = some (.string ⟨(moreL.getD m []).toArray⟩) := fun m h => by rw [← e1]; exact more_cell w m h
  have hs1 : w1.heap.size = w.heap.size + 1 := by rw [← e1, World.size_alloc]
  have HB1 := Lib.hid hB1
  have HW1 := Lib.hid hw1
  clear e1 hB1 hw1
  go_wp2
  go_loopg [3, 10] 4 (fun g o i wr => ∃ k : Nat, k + g = 4 ∧ i = .int .i64 (k : Int) ∧ wr.ownsRow w1.heap.size 9 1 o (fitK X k).length ((fitK X k).map strV) ∧ Below w1.heap.size w1 wr)
  case atStart => exact ⟨0, rfl, rfl, ⟨rfl, Or.inl ⟨rfl, rfl⟩⟩, Below.refl _ _⟩
  case round =>
    obtain ⟨k, hg, rfl, hown, hBw⟩ := hrel
    have HO := Lib.hid hown
    have HBw := Lib.hid hBw
    clear hown hBw
    cases gk with
    | zero =>
      obtain rfl : k = 4 := by omega
      go_wp2
      go_ret
      exact ⟨_, rfl, strsAt_own HO.out, HB1.out.trans (HBw.out.mono (by omega))⟩
    | succ g =>
      have hk : k < 4 := by omega
      have hk2 : (k + 1) + g = 4 := by omega
      have hcm : wr.cell? ⟨w.heap.size, k, none⟩ = some (.string ⟨(moreL.getD k []).toArray⟩) := (HBw.out.cell (p := ⟨w.heap.size, k, none⟩) (by show w.heap.size < w1.heap.size; omega)).trans (HW1.out k hk)
      have hst := fitK_step (X := X) hk
      have hle := fitK_le X k
      have hki : (k : Int) < 4 := by omega
      have HST := Lib.hid hst
      have hbw := HBw.out.size
      clear hg hst
      generalize moreL.getD k [] = wd at *
      go_wp2
      go_loopg [3, 16] X.length (fun g2 o j wq => ∃ i2 : Nat, i2 + g2 = X.length ∧ j = .int .i64 (i2 : Int) ∧ Hid (∀ x ∈ X.take i2, ¬ hitW wd x) ∧ o = u3 ∧ wq = wr)
      case atStart => exact ⟨0, by simp, rfl, Lib.hid (by simp), rfl, rfl⟩
      case round =>
        obtain ⟨i2, hg, rfl, HJ, rfl, rfl⟩ := hrel
        cases gk with
        | zero =>
          obtain rfl : i2 = X.length := by omega
          have hf : fitP X wd = false := fitP_miss (fun x hx => HJ.out x (by rw [List.take_length]; exact hx))
          have HF := Lib.hid hf
          clear hf hg
          go_wp2
          go_roundg g
          case measure => omega
          case rel =>
            refine ⟨k + 1, hk2, by go_num, ?_, HBw.out⟩
            rw [HST.out, HF.out, if_neg (by decide), List.append_nil]
            exact HO.out
        | succ g2 =>
          have hi2' : i2 < X.length := by omega
          have hi3 : (i2 + 1) + g2 = X.length := by omega
          obtain ⟨a, rfl, ha, hc⟩ := HM.out _ hi2'
          have hcell : wr.cell? (a.add i2) = some (.string ⟨(X.getD i2 []).toArray⟩) := ((HB1.out.trans (HBw.out.mono (by omega))).cell (p := a.add i2) (by rw [Addr.add_block]; exact ha)).trans hc
          have hin : X.getD i2 [] ∈ X := by
            rw [List.getD_eq_getElem?_getD, List.getElem?_eq_getElem hi2']; exact List.getElem_mem _
          have htk : X.take (i2 + 1) = X.take i2 ++ [X.getD i2 []] := by
            rw [List.take_succ_eq_append_getElem hi2', List.getD_eq_getElem?_getD, List.getElem?_eq_getElem hi2']; rfl
          have HTK := Lib.hid htk
          have HIN := Lib.hid hin
          clear hg htk hc hin ha
          generalize X.getD i2 [] = x at *
          have hmiss : ¬ hitW wd x → Hid (∀ y ∈ X.take (i2 + 1), ¬ hitW wd y) := fun h => Lib.hid (by
            intro y hy
            rw [HTK.out] at hy
            rcases List.mem_append.1 hy with hy | hy
            · exact HJ.out y hy
            · rw [List.mem_singleton.1 hy]; exact h)
          have hnews : ∀ j u, ([strV wd])[j]? = some u → (wr.alloc (.cells #[.string ⟨wd.toArray⟩] 9)).cell? ((⟨wr.heap.size, 0, none⟩ : Addr).add j) = some u :=
            World.news_of_block (cs := #[.string ⟨wd.toArray⟩]) (t := 9) (fr := (0, 0)) (heap_alloc_new wr _)
          have hownA := HO.out.alloc (.cells #[.string ⟨wd.toArray⟩] 9)
          have HOA := Lib.hid hownA
          have HN := Lib.hid hnews
          have HMS := Lib.hid hmiss
          have hb9 : w1.heap.size ≤ (wr.alloc (.cells #[.string ⟨wd.toArray⟩] 9)).heap.size := by rw [World.size_alloc]; omega
          have hm0 : (fitK X k).length + 1 ≤ maxLen := by unfold maxLen; omega
          have hbt0 : ((fitK X k).length + 1) * 16 ≤ 140737488355328 := by omega
          have hBA := HBw.out.alloc hbw (.cells #[.string ⟨wd.toArray⟩] 9)
          have HBA := Lib.hid hBA
          clear hnews hownA hmiss hBA
          have hone : ∀ u ∈ ([strV wd] : List Value), u.oneCell' = true := strV_one (L := [wd])
          by_cases b1 : x = wd
          · have t1 : (x == wd) = true := by rw [b1]; exact beq_self_eq_true _
            have hf : fitP X wd = true := fitP_hit HIN.out (Or.inl b1)
            have HF := Lib.hid hf
            clear b1 hf
            go_wp2_with (at_builtin; refine wpList_append_own_at _ rfl (.tmp 31) (.tmp 33) 22 rfl w1.heap.size 9 i0 _ 1 16 Tryd.underlying22 hi hz0 hz1 hz2 rfl (by decide) _ _ _ rfl HOA.out ⟨wr.heap.size, 0, none⟩ 1 1 [strV wd] rfl rfl HN.out hone hm0 hbt0 hb9 ?_; intro v6 w6 hown6 hgr6 _ _; have HOWN6 := Lib.hid hown6; have HGR6 := Lib.hid hgr6; clear hown6 hgr6)
            go_roundg g
            case measure => omega
            case rel =>
              refine ⟨k + 1, hk2, by go_num, ?_, HBA.out.grown HGR6.out hb9 (fun k' e => (HOA.out.lt k' e).1)⟩
              rw [HST.out, HF.out, if_pos rfl, List.length_append, List.map_append]
              exact HOWN6.out
          · have t1 : (x == wd) = false := by simpa using b1
            by_cases b2 : wd = wIn
            · have t2 : (wd == [105, 110]) = true := by rw [b2]; rfl
              by_cases b3 : x = wEvery
              · have t3 : (x == [101, 118, 101, 114, 121]) = true := by rw [b3]; rfl
                have hf : fitP X wd = true := fitP_hit HIN.out (Or.inr ⟨b2, b3⟩)
                have HF := Lib.hid hf
                clear b1 b2 b3 hf
                go_wp2_with (at_builtin; refine wpList_append_own_at _ rfl (.tmp 31) (.tmp 33) 22 rfl w1.heap.size 9 i0 _ 1 16 Tryd.underlying22 hi hz0 hz1 hz2 rfl (by decide) _ _ _ rfl HOA.out ⟨wr.heap.size, 0, none⟩ 1 1 [strV wd] rfl rfl HN.out hone hm0 hbt0 hb9 ?_; intro v6 w6 hown6 hgr6 _ _; have HOWN6 := Lib.hid hown6; have HGR6 := Lib.hid hgr6; clear hown6 hgr6)
                go_roundg g
                case measure => omega
                case rel =>
                  refine ⟨k + 1, hk2, by go_num, ?_, HBA.out.grown HGR6.out hb9 (fun k' e => (HOA.out.lt k' e).1)⟩
                  rw [HST.out, HF.out, if_pos rfl, List.length_append, List.map_append]
                  exact HOWN6.out
              · have t3 : (x == [101, 118, 101, 114, 121]) = false := by simpa [wEvery] using b3
                have HMM := HMS.out (fun h => h.elim b1 (fun h => b3 h.2))
                clear b1 b2 b3
                go_wp2_with fail
                go_roundg g2
                case measure => omega
                case rel => exact ⟨i2 + 1, hi3, by go_num, HMM, rfl, rfl⟩
            · have t2 : (wd == [105, 110]) = false := by simpa [wIn] using b2
              have HMM := HMS.out (fun h => h.elim b1 (fun h => b2 h.1))
              clear b1 b2
              go_wp2_with fail
              go_roundg g2
              case measure => omega
              case rel => exact ⟨i2 + 1, hi3, by go_num, HMM, rfl, rfl⟩

end Go.Proofs.YtplljfbbipeakaaDoor

namespace Go.Proofs.YtplljfbbipeakaaDoor
open Go Go.RowKit Go.Maps Go.WideMaps Go.WideElems

/-- A text of good segments, under the keywords and the words that are added. -/
structure GoodS (X : List (List UInt8)) (S : List Seg) : Prop where
  segs : Segs (kwAll kh0 kt0 (fitL X)).1 (kwAll kh0 kt0 (fitL X)).2 S
  okg : ∀ r ∈ segsR S, okG r
  last : lastA (segsR S)
  ne : segsR S ≠ []
  len : (encL (segsR S)).length ≤ 1073741824

theorem goodS_lay (X : List (List UInt8)) (gs : List Int) {ps : List PV} (hn : ps ≠ []) (hz : sumZ ps ≤ 1048576) : GoodS X (layS gs (fitL X) 0 ps) := by
  have h1 := layS_segs (gs := gs) (Z := []) (piece_good X) trivial (fun r hr => by cases hr) ps 0
  rw [List.append_nil] at h1
  obtain ⟨h2, h3⟩ := layS_last gs (piece_good X) ps 0 hn
  have h4 := layS_bytes gs (fitL X) ps 0
  exact ⟨h1, layS_G gs _ ps 0, h3, h2, by omega⟩

theorem goodS_join (X : List (List UInt8)) (gs hs : List Int) {ps qs : List PV} (hn : qs ≠ []) (hz : sumZ ps ≤ 1048576) (hz2 : sumZ qs ≤ 1048576) : GoodS X (layS gs (fitL X) 0 ps ++ nlSeg :: layS hs (fitL X) 0 qs) := by
  have hb := goodS_lay X hs hn hz2
  have hZ : Segs (kwAll kh0 kt0 (fitL X)).1 (kwAll kh0 kt0 (fitL X)).2 (nlSeg :: layS hs (fitL X) 0 qs) := ⟨SegOk.ws 10 _ (Or.inr (Or.inr (Or.inl rfl))), hb.segs⟩
  have h1 := layS_segs (gs := gs) (piece_good X) hZ (by rw [segsR_cons]; intro r hr; cases hr; omega) ps 0
  have e : segsR (layS gs (fitL X) 0 ps ++ nlSeg :: layS hs (fitL X) 0 qs) = segsR (layS gs (fitL X) 0 ps) ++ ([10] ++ segsR (layS hs (fitL X) 0 qs)) := by
    rw [segsR_append, segsR_cons]; rfl
  have h4 := layS_bytes gs (fitL X) ps 0
  have h5 := layS_bytes hs (fitL X) qs 0
  refine ⟨h1, ?_, ?_, ?_, ?_⟩
  · rw [e]
    intro r hr
    rcases List.mem_append.1 hr with hr | hr
    · exact layS_G _ _ _ _ r hr
    · rcases List.mem_append.1 hr with hr | hr
      · rw [List.mem_singleton.1 hr]; exact okG_low (by decide) (by decide)
      · exact hb.okg r hr
  · rw [e, ← List.append_assoc]
    exact lastA_app hb.last hb.ne
  · rw [e]; simp
  · rw [e, encL_append, encL_append, List.length_append, List.length_append, encL_cons, encL_nil, encR1 (by decide)]
    simp only [List.append_nil, List.length_singleton]
    omega

theorem fitL_len (X : List (List UInt8)) : (fitL X).length ≤ 4 ∧ ∀ m ∈ fitL X, m.length ≤ 8 := by
  refine ⟨List.length_filter_le _ _, fun m hm => ?_⟩
  have h : ∀ m ∈ moreL, m.length ≤ 8 := by decide
  exact h m (List.mem_filter.1 hm).1

/-- What a scan of a good text leaves. -/
def GotPost (white : Bool) (S : List Seg) (w : World) (e : Ending) (w' : World) : Prop :=
  ∃ v, e = .returned (.tuple #[v, .int .i64 0, .bool true]) ∧ w'.ownsRow w.heap.size 40 6 v (gotV white S).length ((gotV white S).flatMap TV.cells) ∧ Below w.heap.size w w'

theorem scanS_imp {X : List (List UInt8)} {S : List Seg} {mv : Value} {w : World} (white : Bool) (hB : Base w.heap.size kh0 kt0 w) (hM : StrsAt mv (fitL X) w) (hG : GoodS X S) :
    Calls Tryd.prog 33 #[.string (BA (segsR S)), mv, .bool white] w (ImpPost w.heap.size (runT S) white w) := by
  obtain ⟨h1, h2⟩ := fitL_len X
  exact implScan_run hB (by rw [ba_size]; have := hG.len; omega) hM (by omega) (fun m hm => by have := h2 m hm; unfold maxLen; omega) (txt_of hG.okg) hG.segs (kwAll_ok _ _ kt0_ok)
theorem scanS_post {X : List (List UInt8)} {S : List Seg} {white : Bool} {w w' : World} {e : Ending} (hG : GoodS X S) (h : ImpPost w.heap.size (runT S) white w e w') : GotPost white S w e w' := by
  obtain ⟨v, rfl, ho, hb⟩ := h
  obtain ⟨e1, e2⟩ := run_cells hG.last hG.ne (fun g hg => by
    have key : ∀ {kh : List UInt8 → Bool} {kt : List UInt8 → Int} {gs : List Seg}, Segs kh kt gs → ∀ g ∈ gs, 1 ≤ g.body.length := by
      intro kh kt gs
      induction gs with
      | nil => intro _ g hg; cases hg
      | cons a t ih =>
        rintro ⟨h1, h2⟩ g hg
        rcases List.mem_cons.1 hg with rfl | hg
        · exact segOk_body h1
        · exact ih h2 g hg
    exact key hG.segs g hg) white
  refine ⟨v, ?_, by rw [← e1, ← e2]; exact ho, hb⟩
  rw [errsL_zero (runT_errs S)]; rfl
theorem scanS_walk {X : List (List UInt8)} {S : List Seg} {mv : Value} {w : World} (hB : Base w.heap.size kh0 kt0 w) (hM : StrsAt mv (fitL X) w) (hG : GoodS X S) :
    Calls Tryd.prog 20 #[.string (BA (segsR S)), mv] w (GotPost false S w) :=
  (Scan_walk (scanS_imp false hB hM hG)).mono fun _ _ h => scanS_post hG h
theorem scanAllS_walk {X : List (List UInt8)} {S : List Seg} {mv : Value} {w : World} (hB : Base w.heap.size kh0 kt0 w) (hM : StrsAt mv (fitL X) w) (hG : GoodS X S) :
    Calls Tryd.prog 24 #[.string (BA (segsR S)), mv] w (GotPost true S w) :=
  (ScanAll_walk (scanS_imp true hB hM hG)).mono fun _ _ h => scanS_post hG h

/-! a row of tokens in memory -/
def RowAt (g : Nat) (l : List TV) (w : World) : Prop := ∀ i (h : i < l.length),
  w.cell? ⟨g, i * 6, none⟩ = some (.int .i64 l[i].tk) ∧ w.cell? ⟨g, i * 6 + 1, none⟩ = some (.string l[i].lit) ∧ w.cell? ⟨g, i * 6 + 2, none⟩ = some (.int .i64 l[i].off) ∧
  w.cell? ⟨g, i * 6 + 3, none⟩ = some (.int .i64 l[i].stop) ∧ w.cell? ⟨g, i * 6 + 4, none⟩ = some (.int .i64 l[i].row) ∧ w.cell? ⟨g, i * 6 + 5, none⟩ = some (.int .i64 l[i].col)

theorem cells_idx : ∀ (l : List TV) (i : Nat) (h : i < l.length) (j : Nat) (_ : j < 6), (l.flatMap TV.cells)[i * 6 + j]? = l[i].cells[j]?
  | v :: l, 0, _, j, hj => by
    rw [List.flatMap_cons, List.getElem?_append_left (by show 0 * 6 + j < 6; omega), Nat.zero_mul, Nat.zero_add]; rfl
  | v :: l, i + 1, h, j, hj => by
    have ih := cells_idx l i (by simpa using h) j hj
    rw [List.flatMap_cons, List.getElem?_append_right (by show 6 ≤ (i + 1) * 6 + j; omega)]
    have e : (i + 1) * 6 + j - v.cells.length = i * 6 + j := by show (i + 1) * 6 + j - 6 = _; omega
    rw [e, ih]; rfl

theorem rowAt_own {w : World} {B : Nat} {v : Value} {l : List TV} (h : w.ownsRow B 40 6 v l.length (l.flatMap TV.cells)) (hn : 0 < l.length) :
    ∃ g c, v = .slice (some ⟨g, 0, none⟩) l.length c ∧ B ≤ g ∧ g < w.heap.size ∧ RowAt g l w := by
  rcases h.2 with ⟨_, h0⟩ | ⟨g, cap, cur, rfl, hg, hh, r⟩
  · omega
  · refine ⟨g, cap, rfl, hg, lt_of_block hh, fun i hi => ?_⟩
    have key : ∀ j, j < 6 → ∀ u, l[i].cells[j]? = some u → w.cell? ⟨g, i * 6 + j, none⟩ = some u := by
      intro j hj u hu
      have := h.cells (g := g) rfl (i * 6 + j) u (by rw [cells_idx l i hi j hj]; exact hu)
      rwa [addr_z] at this
    exact ⟨key 0 (by decide) _ rfl, key 1 (by decide) _ rfl, key 2 (by decide) _ rfl, key 3 (by decide) _ rfl, key 4 (by decide) _ rfl, key 5 (by decide) _ rfl⟩

theorem RowAt.below {g : Nat} {l : List TV} {w w' : World} (h : RowAt g l w) (hg : g < w.heap.size) (hb : Below w.heap.size w w') : RowAt g l w' := by
  intro i hi
  obtain ⟨h0, h1, h2, h3, h4, h5⟩ := h i hi
  exact ⟨(hb.cell (p := ⟨g, _, none⟩) hg).trans h0, (hb.cell (p := ⟨g, _, none⟩) hg).trans h1, (hb.cell (p := ⟨g, _, none⟩) hg).trans h2, (hb.cell (p := ⟨g, _, none⟩) hg).trans h3, (hb.cell (p := ⟨g, _, none⟩) hg).trans h4, (hb.cell (p := ⟨g, _, none⟩) hg).trans h5⟩

/-- What Lay returns, as records. -/
def WT.tv (x : WT) : TV := ⟨x.kind, BA x.body, x.off, x.stop, x.row, 0⟩
theorem wt_cells : ∀ l : List WT, l.flatMap WT.cells = (l.map WT.tv).flatMap TV.cells
  | [] => rfl
  | x :: l => by rw [List.flatMap_cons, List.map_cons, List.flatMap_cons, wt_cells l]; rfl

theorem layAcc_nil (gs : List Int) (ms : List (List UInt8)) (ps : List PV) : (layAcc gs ms 0 [] [] ps).1 = segsR (layS gs ms 0 ps) := by
  rw [layAcc_text]; rfl
theorem src_ne {S : List Seg} (h : segsR S ≠ []) : encL (segsR S) ≠ [] := by
  obtain ⟨c, t, e⟩ := List.exists_cons_of_ne_nil h
  rw [e, encL_cons]
  intro h0
  have h1 := List.append_eq_nil_iff.1 h0
  have h2 : encR c ≠ [] := by
    unfold encR
    repeat' split
    all_goals simp
  exact h2 h1.1

theorem seqV_tk : ∀ (gs : List Seg) (pre : List Nat), ∀ v ∈ seqV pre gs, ∃ g ∈ gs, v.tk = g.tk
  | [], _, v, hv => by cases hv
  | g :: gs, pre, v, hv => by
    rcases List.mem_cons.1 hv with rfl | hv
    · exact ⟨g, .head _, rfl⟩
    · obtain ⟨x, hx, h⟩ := seqV_tk gs _ v hv; exact ⟨x, .tail _ hx, h⟩
theorem goodS_tk {X : List (List UInt8)} {S : List Seg} (hG : GoodS X S) (pre : List Nat) : ∀ v ∈ seqV pre S, v.tk ≠ 1 := by
  intro v hv
  obtain ⟨g, hg, e⟩ := seqV_tk S pre v hv
  have := Segs.range (kwAll_ok _ _ kt0_ok) hG.segs g hg
  omega
/-- The tokens but the last are none of the end; their columns. -/
theorem gotV_mid {X : List (List UInt8)} {S : List Seg} (hG : GoodS X S) : ∀ k (h : k < (gotV false S).length),
    (k + 1 = (gotV false S).length → (gotV false S)[k].tk = 1) ∧
    (k + 1 < (gotV false S).length → (gotV false S)[k].tk ≠ 1 ∧ (gotV false S)[k].col = 1 + colB ((encL (segsR S)).take (gotV false S)[k].off) ∧ (gotV false S)[k].off ≤ (encL (segsR S)).length) := by
  have e : gotV false S = (seqV [] S).filter (keepV false) ++ [endV (segsR S)] := rfl
  have hcol := seqV_col S [] hG.segs (fun r hr => (hG.okg r hr).1)
  rw [e]
  intro k h
  rw [List.length_append, List.length_singleton]
  refine ⟨fun hk => ?_, fun hk => ?_⟩
  · rw [List.getElem_append_right (by omega)]
    simp [endV]
  · have hl : k < ((seqV [] S).filter (keepV false)).length := by omega
    rw [List.getElem_append_left hl]
    have hm := List.getElem_mem hl
    exact ⟨goodS_tk hG [] _ (List.mem_filter.1 hm).1, hcol _ hm⟩
theorem gotV_pos (white : Bool) (S : List Seg) : 0 < (gotV white S).length := by unfold gotV; rw [List.length_append]; simp
theorem gotV_len {X : List (List UInt8)} {S : List Seg} (hG : GoodS X S) (white : Bool) : (gotV white S).length ≤ 1073741825 := by
  unfold gotV
  have h1 := List.length_filter_le (keepV white) (seqV [] S)
  have h2 := seqV_length S []
  have h3 := Segs.length hG.segs
  have h4 := encL_ge (fun r hr => (hG.okg r hr).1)
  have h5 := hG.len
  rw [List.length_append, List.length_singleton]
  omega

/-- The tokens that are wanted, as records. -/
def wantV (gs : List Int) (ms : List (List UInt8)) (ps : List PV) : List TV := (layEnd (layAcc gs ms 0 [] [] ps)).map WT.tv
theorem want_fits (X : List (List UInt8)) (gs : List Int) (ps : List PV) : (wantV gs (fitL X) ps).length = (gotV false (layS gs (fitL X) 0 ps)).length ∧
    ∀ k (h1 : k < (wantV gs (fitL X) ps).length) (h2 : k < (gotV false (layS gs (fitL X) 0 ps)).length),
      (k + 1 = (gotV false (layS gs (fitL X) 0 ps)).length → (wantV gs (fitL X) ps)[k].tk = 1 ∧ (gotV false (layS gs (fitL X) 0 ps))[k].tk = 1) ∧
      (k + 1 < (gotV false (layS gs (fitL X) 0 ps)).length → (wantV gs (fitL X) ps)[k].tk = (gotV false (layS gs (fitL X) 0 ps))[k].tk ∧ (wantV gs (fitL X) ps)[k].off = (gotV false (layS gs (fitL X) 0 ps))[k].off ∧
        (wantV gs (fitL X) ps)[k].stop = (gotV false (layS gs (fitL X) 0 ps))[k].stop ∧ (wantV gs (fitL X) ps)[k].row = (gotV false (layS gs (fitL X) 0 ps))[k].row ∧ (wantV gs (fitL X) ps)[k].tk ≠ 1 ∧
        ((gotV false (layS gs (fitL X) 0 ps))[k].lit = (wantV gs (fitL X) ps)[k].lit ∨ isSignB (wantV gs (fitL X) ps)[k].lit.data.toList = true)) := by
  obtain ⟨T, h1, h2⟩ := layAcc_fits (gs := gs) (ms := fitL X) (fun p => ⟨write_head p, fun r hr => (write_G p r hr).1⟩) ps 0 [] [] (fun r hr => by cases hr)
  rw [List.nil_append] at h1
  have hw : wantV gs (fitL X) ps = T.map WT.tv ++ [⟨1, BA [], (encL (layAcc gs (fitL X) 0 [] [] ps).1).length, (encL (layAcc gs (fitL X) 0 [] [] ps).1).length, 1 + nlB (encL (layAcc gs (fitL X) 0 [] [] ps).1), 0⟩] := by
    unfold wantV layEnd
    rw [h1, List.map_append]; rfl
  have hg : gotV false (layS gs (fitL X) 0 ps) = (seqV [] (layS gs (fitL X) 0 ps)).filter (keepV false) ++ [endV (segsR (layS gs (fitL X) 0 ps))] := rfl
  rw [hw, hg]
  generalize (seqV [] (layS gs (fitL X) 0 ps)).filter (keepV false) = V at *
  have hl := h2.length
  refine ⟨by rw [List.length_append, List.length_append, List.length_map, hl]; rfl, ?_⟩
  intro k g1 g2
  rw [List.length_append, List.length_singleton]
  refine ⟨fun hk => ?_, fun hk => ?_⟩
  · rw [List.getElem_append_right (by rw [List.length_map]; omega), List.getElem_append_right (by omega)]
    simp [endV]
  · rw [List.getElem_append_left (by rw [List.length_map]; omega), List.getElem_append_left (by omega), List.getElem_map]
    have hf := h2.get k (by omega) (by omega)
    refine ⟨hf.kind, hf.off, hf.stop, hf.row, hf.not1, ?_⟩
    refine hf.lit.imp id (fun h => ?_)
    have e : (BA T[k].body).data.toList = encL T[k].body := by simp [BA]
    show isSignB (BA T[k].body).data.toList = true
    rw [e]; exact h

/-- All tokens of a text, one behind the other. -/
theorem gotV_cover {X : List (List UInt8)} {S : List Seg} (hG : GoodS X S) : cutV S 0 = 0 ∧ ∀ k (h : k < (gotV true S).length),
    (k + 1 = (gotV true S).length → (gotV true S)[k].tk = 1) ∧
    (k + 1 < (gotV true S).length → (gotV true S)[k].tk ≠ 1 ∧ (gotV true S)[k].off = cutV S k ∧ (gotV true S)[k].stop = cutV S (k + 1) ∧ cutV S k ≤ cutV S (k + 1) ∧ cutV S (k + 1) ≤ (encL (segsR S)).length) := by
  refine ⟨rfl, ?_⟩
  have e0 : (seqV [] S).filter (keepV true) = seqV [] S := List.filter_eq_self.2 (fun _ _ => rfl)
  have e : gotV true S = seqV [] S ++ [endV (segsR S)] := by unfold gotV; rw [e0]
  rw [e]
  intro k h
  rw [List.length_append, List.length_singleton]
  refine ⟨fun hk => ?_, fun hk => ?_⟩
  · rw [List.getElem_append_right (by omega)]
    simp [endV]
  · have hl : k < (seqV [] S).length := by omega
    have hs : k < S.length := by rw [seqV_length] at hl; exact hl
    rw [List.getElem_append_left hl]
    obtain ⟨_, h2, h3⟩ := seqV_at S [] k hl hs
    have h4 := cutV_le S k
    have h5 := cutV_le S (k + 1)
    refine ⟨goodS_tk hG [] _ (List.getElem_mem _), ?_, ?_, h4.1, h5.2⟩
    · rw [h2, encL_nil]; exact Nat.zero_add _
    · rw [h3, encL_nil]; exact Nat.zero_add _

end Go.Proofs.YtplljfbbipeakaaDoor
