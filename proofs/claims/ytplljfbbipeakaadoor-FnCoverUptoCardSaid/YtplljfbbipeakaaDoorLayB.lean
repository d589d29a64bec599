/- spec.Lay, walked. -/
import Derived.Test.YtplljfbbipeakaaDoorLayA
import Derived.Outline
import Derived.Deep.RegionLaw
import Derived.Deep.AppendLies
namespace Go.Proofs.YtplljfbbipeakaaDoor
open Go Go.RowKit

/-- A token's block, while it is made. -/
def TokAt (b : Nat) (k : Int) (x : ByteArray) (off stop row : Int) (w : World) : Prop := w.heap[b]? = some (.cells #[.int .i64 k, .string x, .int .i64 off, .int .i64 stop, .int .i64 row, .int .i64 0] 40 (0, 0))
theorem TokAt.cells {b : Nat} {k : Int} {x : ByteArray} {off stop row : Int} {w : World} (h : TokAt b k x off stop row w) :
    w.cell? ⟨b, 0, none⟩ = some (.int .i64 k) ∧ w.cell? ⟨b, 1, none⟩ = some (.string x) ∧ w.cell? ⟨b, 2, none⟩ = some (.int .i64 off) ∧ w.cell? ⟨b, 3, none⟩ = some (.int .i64 stop) ∧ w.cell? ⟨b, 4, none⟩ = some (.int .i64 row) ∧ w.cell? ⟨b, 5, none⟩ = some (.int .i64 0) ∧ w.frozen? ⟨b, 3, none⟩ = false :=
  ⟨cell_row h 0 _ rfl, cell_row h 1 _ rfl, cell_row h 2 _ rfl, cell_row h 3 _ rfl, cell_row h 4 _ rfl, cell_row h 5 _ rfl, free_row h 3⟩

theorem lay_one {a b c d : Int} {x : ByteArray} : ∀ u ∈ ([.int .i64 a, .string x, .int .i64 b, .int .i64 c, .int .i64 d, .int .i64 0] : List Value), u.oneCell' = true := by
  intro u hu
  simp only [List.mem_cons, List.not_mem_nil, or_false] at hu
  rcases hu with rfl | rfl | rfl | rfl | rfl | rfl <;> rfl

theorem nlB_le (l : List UInt8) : nlB l ≤ l.length := List.count_le_length
theorem lay_sizes {R G b t F : List Nat} (h : ∃ R', F = R ++ G ++ b ++ t ++ R') (hF : (encL F).length ≤ 1073741824) :
    (BA R).size ≤ 1073741824 ∧ (BA G).size ≤ 1073741824 ∧ (BA b).size ≤ 1073741824 ∧ (BA (R ++ G)).size ≤ 1073741824 ∧ (BA (R ++ G ++ b)).size ≤ 1073741824 ∧ nlB (encL R) ≤ 1073741824 ∧ nlB (encL (R ++ G)) ≤ 1073741824 ∧ nlB (encL (R ++ G ++ b)) ≤ 1073741824 := by
  obtain ⟨R', rfl⟩ := h
  simp only [encL_append, List.length_append] at hF
  have h1 := nlB_le (encL R)
  have h2 := nlB_le (encL (R ++ G))
  have h3 := nlB_le (encL (R ++ G ++ b))
  simp only [encL_append, List.length_append] at h2 h3
  simp only [ba_size, encL_append, List.length_append]
  omega

/-- The wanted tokens, and the end's. -/
def layEnd (p : List Nat × List WT) : List WT := p.2 ++ [⟨1, [], (encL p.1).length, (encL p.1).length, 1 + nlB (encL p.1)⟩]

theorem mod6_spec (n : Int) : (wrap64 (n.tmod 6 + 6)).tmod 6 = (modOf 6 n : Int) ∧ modOf 6 n < 6 := modOf_spec 6 (by decide) (by decide) n
def gapObj : Obj := .cells #[.string ⟨#[32]⟩, .string ⟨#[32, 32]⟩, .string ⟨#[9]⟩, .string ⟨#[10]⟩, .string ⟨#[32, 10, 32]⟩, .string ⟨#[13, 10]⟩] 9
theorem gap_cell (W : World) (m : Nat) (h : m < 6) : (W.alloc (.cells #[.string ⟨#[32]⟩, .string ⟨#[32, 32]⟩, .string ⟨#[9]⟩, .string ⟨#[10]⟩, .string ⟨#[32, 10, 32]⟩, .string ⟨#[13, 10]⟩] 9)).cell? ⟨W.heap.size, m, none⟩ = some (.string (BA (gapL.getD m []))) := by
  have hb := heap_alloc_new W (.cells #[.string ⟨#[32]⟩, .string ⟨#[32, 32]⟩, .string ⟨#[9]⟩, .string ⟨#[10]⟩, .string ⟨#[32, 10, 32]⟩, .string ⟨#[13, 10]⟩] 9)
  refine cell_row hb m _ ?_
  have : m = 0 ∨ m = 1 ∨ m = 2 ∨ m = 3 ∨ m = 4 ∨ m = 5 := by omega
  rcases this with rfl | rfl | rfl | rfl | rfl | rfl <;> rfl

set_option maxHeartbeats 8000000 in
set_option maxRecDepth 100000 in
theorem lay_walk {pv gv mv : Value} {ps : List PV} {gs : List Int} {ms : List (List UInt8)} {w : World} (hP : PiecesAt pv ps w) (hG : IntsAt gv gs w) (hM : StrsAt mv ms w)
    (hpl : ps.length ≤ 4194304) (hgl : gs.length ≤ 4294967296) (hml : ms.length ≤ 4294967296) (hpt : ∀ p ∈ ps, p.t.size ≤ 2147483647) (hsz : (encL (layAcc gs ms 0 [] [] ps).1).length ≤ 1073741824) :
    Calls Tryd.prog 18 #[pv, gv, mv] w fun e w' => ∃ v, e = .returned (.tuple #[.string (BA (layAcc gs ms 0 [] [] ps).1), v]) ∧ w'.ownsRow w.heap.size 40 6 v (ps.length + 1) ((layEnd (layAcc gs ms 0 [] [] ps)).flatMap WT.cells) ∧ Below w.heap.size w w' := by
  obtain ⟨pa, pc, rfl, hP2⟩ := hP
  obtain ⟨ga, gc, rfl, hG2⟩ := hG
  have HP := Lib.hid hP2
  have HG := Lib.hid hG2
  have HM := Lib.hid hM
  have HPT := Lib.hid hpt
  have HSZ := Lib.hid hsz
  clear hP2 hG2 hM hpt hsz
  go_enter Tryd.func18, Tryd.ntmps18
  go_wp2
  go_loopg [10, 21] ps.length (fun g o i wr => ∃ (k : Nat) (R : List Nat) (T : List WT), k + g = ps.length ∧ i = .int .i64 (k : Int) ∧ Hid (layAcc gs ms k R T (ps.drop k) = layAcc gs ms 0 [] [] ps) ∧ T.length = k ∧ LayMem w.heap.size w.heap.size (w.heap.size + 1) R T o w wr)
  case atStart =>
    refine ⟨0, [], [], by simp, rfl, Lib.hid rfl, rfl, ?_, ?_, ⟨rfl, Or.inl ⟨rfl, rfl⟩⟩, ?_, by simp; omega, Nat.le_refl _, by omega⟩
    · exact row_alloc (heap_alloc_new w _)
    · have := heap_alloc_new (w.alloc (.cells #[.string ⟨#[]⟩] 9)) (.cells #[.int .i64 1] 3)
      rwa [World.size_alloc] at this
    · exact ((Below.refl _ _).alloc (Nat.le_refl _) _).alloc (by simp) _
  case round =>
    obtain ⟨k, R, T, hg, rfl, HA, hTl, hL⟩ := hrel
    have HL := Lib.hid hL
    clear hL
    cases gk with
    | zero =>
      obtain rfl : k = ps.length := by omega
      have hfin : layAcc gs ms 0 [] [] ps = (R, T) := by
        have h := HA.out
        rw [List.drop_length] at h
        exact h.symm
      have HF := Lib.hid hfin
      have c8 : wr.cell? ⟨w.heap.size, 0, none⟩ = some (.string (BA R)) := cell_row HL.out.str 0 _ rfl
      have c9 : wr.cell? ⟨w.heap.size + 1, 0, none⟩ = some (.int .i64 ((1 + nlB (encL R) : Nat) : Int)) := cell_row HL.out.row 0 _ rfl
      have hz0' : (encL R).length ≤ 1073741824 := by have h := HSZ.out; rw [hfin] at h; exact h
      have hz1' := nlB_le (encL R)
      have hzs : (BA R).size = (encL R).length := ba_size R
      have hm0 : T.length + 1 ≤ maxLen := by unfold maxLen; omega
      have hbt0 : (T.length + 1) * 56 ≤ 140737488355328 := by omega
      obtain ⟨i0, hi, hz0, hz1, hz2⟩ := info_parts info40
      have HZS := Lib.hid hzs
      have hbw := HL.out.bw
      have lt8 : w.heap.size < wr.heap.size := lt_of_block HL.out.str
      have lt9 : w.heap.size + 1 < wr.heap.size := lt_of_block HL.out.row
      have n8 : u10.ownBlock ≠ some w.heap.size := own_ne HL.out.own HL.out.str (by decide)
      have n9 : u10.ownBlock ≠ some (w.heap.size + 1) := own_ne HL.out.own HL.out.row (by decide)
      have k8 : ∀ o, (wr.alloc o).cell? ⟨w.heap.size, 0, none⟩ = some (.string (BA R)) := fun o => (World.cell?_of_block (a := ⟨w.heap.size, 0, none⟩) (w := wr) (w' := wr.alloc o) (Below.heap_alloc wr o _ lt8)).trans c8
      have k9 : ∀ o, (wr.alloc o).cell? ⟨w.heap.size + 1, 0, none⟩ = some (.int .i64 ((1 + nlB (encL R) : Nat) : Int)) := fun o => (World.cell?_of_block (a := ⟨w.heap.size + 1, 0, none⟩) (w := wr) (w' := wr.alloc o) (Below.heap_alloc wr o _ lt9)).trans c9
      clear hfin hzs
      go_wp2
      go_region_held3 (fun w' => w'.cell? ⟨w.heap.size, 0, none⟩ = some (.string (BA R)) ∧ w'.cell? ⟨w.heap.size + 1, 0, none⟩ = some (.int .i64 ((1 + nlB (encL R) : Nat) : Int)))
        (first | exact ⟨c8, c9⟩ | exact ⟨k8 _, k9 _⟩ | exact ⟨cc8, cc9⟩)
        ((refine step_append_lies _ rfl (.tmp 73) (.tmp 80) 33 rfl w.heap.size 40 i0 _ 6 56 Tryd.underlying33 hi hz0 hz1 hz2 rfl (by decide) u10 T.length (T.flatMap WT.cells) (by rfl) (HL.out.own.alloc _).drew ⟨wr.heap.size, 0, none⟩ 1 1 [.int .i64 1, .string ⟨#[]⟩, .int .i64 ((BA R).size : Nat), .int .i64 ((BA R).size : Nat), .int .i64 (1 + (nlB (encL R) : Int)), .int .i64 0] (by rfl) (by rfl) (World.news_of_block (cs := #[.int .i64 1, .string ⟨#[]⟩, .int .i64 ((BA R).size : Nat), .int .i64 ((BA R).size : Nat), .int .i64 (1 + (nlB (encL R) : Int)), .int .i64 0]) (t := 40) (fr := (0, 0)) (heap_alloc_new wr _)) lay_one (by decide) hm0 hbt0 (by simp; omega) (wr.heap.size + 1) (by simp) ?_; intro g1 cap1 w9 hown9 hgrow9 hat9 hlt9; clear hat9; have HO := Lib.hid hown9; clear hown9; have cc8 : w9.cell? ⟨w.heap.size, 0, none⟩ = some (.string (BA R)) := (hgrow9.cell_far ⟨w.heap.size, 0, none⟩ (by simp; omega) (Ne.symm n8)).trans (by simpa using k8 _); have cc9 : w9.cell? ⟨w.heap.size + 1, 0, none⟩ = some (.int .i64 ((1 + nlB (encL R) : Nat) : Int)) := (hgrow9.cell_far ⟨w.heap.size + 1, 0, none⟩ (by simp; omega) (Ne.symm n9)).trans (by simpa using k9 _)))
      have hbl : Below w.heap.size w w9 := by
        have h1 : Below w.heap.size w (wr.alloc (.cells #[.int .i64 1, .string ⟨#[]⟩, .int .i64 ((BA R).size : Nat), .int .i64 ((BA R).size : Nat), .int .i64 (1 + (nlB (encL R) : Int)), .int .i64 0] 40)) := HL.out.below.alloc hbw _
        have h2 : Below w.heap.size w (wr.alloc (.cells #[.int .i64 1, .string ⟨#[]⟩, .int .i64 ((BA R).size : Nat), .int .i64 ((BA R).size : Nat), .int .i64 (1 + (nlB (encL R) : Int)), .int .i64 0] 40)).drew := h1.drew
        exact h2.grown hgrow9 (by simp; omega) (fun k e => (HL.out.own.lt k e).1)
      have HBL := Lib.hid hbl
      clear hbl hgrow9
      go_wp2
      go_ret2
      refine ⟨.slice (some ⟨g1, 0, none⟩) (ps.length + 1) cap1, by rw [HF.out]; rfl, ?_, HBL.out⟩
      have ho := HO.out
      unfold layEnd
      rw [HF.out, List.flatMap_append]
      have ex : ([⟨1, [], (encL R).length, (encL R).length, 1 + nlB (encL R)⟩] : List WT).flatMap WT.cells = [.int .i64 1, .string ⟨#[]⟩, .int .i64 ((BA R).size : Nat), .int .i64 ((BA R).size : Nat), .int .i64 (1 + (nlB (encL R) : Int)), .int .i64 0] := by
        rw [List.flatMap_cons, List.flatMap_nil, List.append_nil]
        unfold WT.cells
        rw [ba_size]
        simp [BA, encL_nil]
      rw [ex, ← hTl]
      exact ho
    | succ g =>
      have hk : k < ps.length := by omega
      have hk2 : (k + 1) + g = ps.length := by omega
      obtain ⟨b, o, rfl, hbl, d0, d1, d2⟩ := HP.out k hk
      have hdrop : ps.drop k = ps.getD k ⟨0, 0, ⟨#[]⟩⟩ :: ps.drop (k + 1) := by
        rw [List.drop_eq_getElem_cons hk, List.getD_eq_getElem?_getD, List.getElem?_eq_getElem hk]; rfl
      have hpt := HPT.out (ps.getD k ⟨0, 0, ⟨#[]⟩⟩) (by rw [List.getD_eq_getElem?_getD, List.getElem?_eq_getElem hk]; exact List.getElem_mem hk)
      have hacc := HA.out
      rw [hdrop, layAcc] at hacc
      generalize ps.getD k ⟨0, 0, ⟨#[]⟩⟩ = p at *
      obtain ⟨pk, pn, pt⟩ := p
      simp only at d0 d1 d2 hacc hpt
      have e0 : wr.cell? ⟨b, o + k * 3, none⟩ = some (.int .i64 pk) := (HL.out.below.cell (p := ⟨b, _, none⟩) hbl).trans d0
      have e1 : wr.cell? ⟨b, o + k * 3 + 1, none⟩ = some (.int .i64 pn) := (HL.out.below.cell (p := ⟨b, _, none⟩) hbl).trans d1
      have e2 : wr.cell? ⟨b, o + k * 3 + 2, none⟩ = some (.string pt) := (HL.out.below.cell (p := ⟨b, _, none⟩) hbl).trans d2
      have hz := lay_sizes (R := R) (G := gapR gs k) (b := writeR pk pn pt) (t := tailR (writeK pk pn ms)) (F := (layAcc gs ms 0 [] [] ps).1) (by
        have h1 := layAcc_pre gs ms (ps.drop (k + 1)) (k + 1) (R ++ gapR gs k ++ writeR pk pn pt ++ tailR (writeK pk pn ms)) (T ++ [⟨writeK pk pn ms, writeR pk pn pt, (encL (R ++ gapR gs k)).length, (encL (R ++ gapR gs k ++ writeR pk pn pt)).length, 1 + nlB (encL (R ++ gapR gs k))⟩])
        rw [hacc] at h1; exact h1) HSZ.out
      obtain ⟨z1, z2, z3, z4, z5, z6, z7, z8⟩ := hz
      have hw2 : w.heap.size + 1 < wr.heap.size := lt_of_block HL.out.row
      have HACC := Lib.hid hacc
      have HD := Lib.hid hdrop
      clear hacc hdrop hg d0 d1 d2
      generalize hGG : gapR gs k = G at *
      by_cases hg0 : gs = []
      case' pos =>
        subst hg0
        go_wp2_with fail
        have hG32 : G = [32] := hGG.symm
        rw [show (⟨#[32]⟩ : ByteArray) = BA G by rw [hG32]; rfl]
        clear hGG hG32
      case' neg =>
        have hgn : 0 < gs.length := List.length_pos_iff.2 hg0
        have hgpos : (0 : Int) < (gs.length : Int) := by omega
        obtain ⟨j, hjd⟩ : ∃ j, k % gs.length = j := ⟨_, rfl⟩
        have hj : j < gs.length := by rw [← hjd]; exact Nat.mod_lt _ hgn
        have hmod : (k : Int) % (gs.length : Int) = (j : Int) := by rw [← hjd]; exact (Int.natCast_emod _ _).symm
        obtain ⟨a, rfl, hab, hgc⟩ := HG.out j hj
        have hgr : G = gapL.getD (modOf 6 (gs.getD j 0)) [] := by rw [← hGG]; unfold gapR; rw [if_neg hg0, hjd]
        obtain ⟨e6, l6⟩ := mod6_spec (gs.getD j 0)
        have hgA : ∀ q q', ((wr.alloc q).alloc q').cell? (a.add j) = some (.int .i64 (gs.getD j 0)) := fun q q' => by
          have hb2 : Below w.heap.size w ((wr.alloc q).alloc q') := (HL.out.below.alloc HL.out.bw _).alloc (by rw [World.size_alloc]; have := HL.out.bw; omega) _
          exact (hb2.cell (p := a.add j) (by rw [Addr.add_block]; exact hab)).trans hgc
        have hstr := gap_cell (wr.alloc (.cells #[.int .i64 pk, .int .i64 pn, .string pt] 43)) (modOf 6 (gs.getD j 0)) l6
        rw [World.size_alloc] at hstr
        rw [← hgr] at hstr
        have hj2 : (j : Int) < (gs.length : Int) := by omega
        generalize gs.getD j 0 = gv at *
        generalize modOf 6 gv = m6 at *
        clear hgr hjd hgc hg0 hGG
        go_wp2_with fail
      all_goals
        refine gen_calls (fun W => LayMem w.heap.size w.heap.size (w.heap.size + 1) R T u10 w W ∧ PieceAt wr.heap.size pk pn pt W) ?_ ?_
        · first
            | exact ⟨HL.out.alloc _, heap_alloc_new wr _⟩
            | exact ⟨(HL.out.alloc _).alloc _, row_alloc (heap_alloc_new wr _)⟩
        rintro W ⟨hW, hbox⟩
        refine (add_walk (BA R) _ (1 + nlB (encL R)) _ _ W hW.str hW.row (by omega) (by omega) (by omega)).mono ?_
        rintro e w1 ⟨rfl, q8, q9, hT⟩
        have hL1 := hW.add q8 q9 hT
        generalize hR1 : R ++ G = R1 at *
        have HR1 := Lib.hid hR1
        clear hR1
        have hbox1 : PieceAt wr.heap.size pk pn pt w1 := (hT.block _ (by omega) (by omega)).trans hbox
        obtain ⟨x0, x1, x2, _⟩ := hbox1.cells
        have hM1 := HM.out.below (hL1.below)
        have hwr := write_walk pk pn pt mv ms w1 hM1 hml hpt
        have HWR := Lib.hid hwr
        have HL1 := Lib.hid hL1
        clear hW hbox q8 q9 hT hL1 hbox1 hM1 hwr
        generalize hKK : writeK pk pn ms = kk at *
        generalize hBD : writeR pk pn pt = bd at *
        clear hKK hBD
        go_wp2_with fail
        refine HWR.out.mono ?_
        rintro e w2 ⟨rfl, hb2⟩
        have hL2 := HL1.out.on hb2
        have c8 : w2.cell? ⟨w.heap.size, 0, none⟩ = some (.string (BA R1)) := cell_row hL2.str 0 _ rfl
        have c9 : w2.cell? ⟨w.heap.size + 1, 0, none⟩ = some (.int .i64 ((1 + nlB (encL R1) : Nat) : Int)) := cell_row hL2.row 0 _ rfl
        have HL2 := Lib.hid hL2
        clear hb2 hL2 x0 x1 x2
        go_wp2_with fail
        refine gen_calls (fun W => LayMem w.heap.size w.heap.size (w.heap.size + 1) R1 T u10 w W ∧ TokAt w2.heap.size (kk) (BA (bd)) (BA R1).size 0 (1 + (nlB (encL R1) : Int)) W) ⟨HL2.out.alloc _, heap_alloc_new w2 _⟩ ?_
        rintro W3 ⟨hW3, htok⟩
        have hw3 : w.heap.size + 1 < w2.heap.size := lt_of_block HL2.out.row
        refine (add_walk (BA R1) _ (1 + nlB (encL R1)) _ _ W3 hW3.str hW3.row (by omega) (by omega) (by omega)).mono ?_
        rintro e w4 ⟨rfl, q8, q9, hT⟩
        have hL4 := hW3.add q8 q9 hT
        generalize hR2 : R1 ++ bd = R2 at *
        have HR2 := Lib.hid hR2
        clear hR2
        have htok4 : TokAt w2.heap.size (kk) (BA (bd)) (BA R1).size 0 (1 + (nlB (encL R1) : Int)) w4 := (hT.block _ (by omega) (by omega)).trans htok
        obtain ⟨y0, y1, y2, y3, y4, y5, yf⟩ := htok4.cells
        have c8 : w4.cell? ⟨w.heap.size, 0, none⟩ = some (.string (BA R2)) := cell_row hL4.str 0 _ rfl
        have HL4 := Lib.hid hL4
        have HT4 := Lib.hid htok4
        clear hW3 htok q8 q9 hT hL4 htok4 c9
        have hnb : u10.ownBlock ≠ some w2.heap.size := fun e => by have := (HL2.out.own.lt _ e).2; omega
        have hL5 := HL4.out.setTok (bt := w2.heap.size) (i := 3) (.int .i64 ((BA R2).size : Nat)) (by omega) (by omega) (by omega) hnb
        have hs5 : (w4.setCell ⟨w2.heap.size, 3, none⟩ (.int .i64 ((BA R2).size : Nat))).heap.size = w4.heap.size := by simp only [World.setCell, Array.size_modify]
        have hL6 := hL5.alloc (.cells #[.int .i64 (kk), .string (BA (bd)), .int .i64 ((BA R1).size : Nat), .int .i64 ((BA R2).size : Nat), .int .i64 (1 + (nlB (encL R1) : Int)), .int .i64 0] 40)
        have hnews := World.news_of_block (cs := #[.int .i64 (kk), .string (BA (bd)), .int .i64 ((BA R1).size : Nat), .int .i64 ((BA R2).size : Nat), .int .i64 (1 + (nlB (encL R1) : Int)), .int .i64 0]) (t := 40) (fr := (0, 0)) (heap_alloc_new (w4.setCell ⟨w2.heap.size, 3, none⟩ (.int .i64 ((BA R2).size : Nat))) (.cells #[.int .i64 (kk), .string (BA (bd)), .int .i64 ((BA R1).size : Nat), .int .i64 ((BA R2).size : Nat), .int .i64 (1 + (nlB (encL R1) : Int)), .int .i64 0] 40))
        rw [hs5] at hnews
        have hown6 := hL6.own
        have hbw6 := hL6.bw
        have HOWN := Lib.hid hown6
        have HNW := Lib.hid hnews
        have HBW := Lib.hid hbw6
        have HL6 := Lib.hid hL6
        have hm0 : T.length + 1 ≤ maxLen := by unfold maxLen; omega
        have hbt0 : (T.length + 1) * 56 ≤ 140737488355328 := by omega
        obtain ⟨i0, hi, hz0, hz1, hz2⟩ := info_parts info40
        clear hL5 hs5 hL6 hnews hown6 hbw6
        by_cases hk4 : kk = 4
        · have hq4 : (kk == 4) = true := by rw [hk4]; rfl
          have HK4 := Lib.hid hk4
          clear hk4
          go_wp2_with (at_builtin; refine wpList_append_own_at _ rfl (.tmp 63) (.tmp 65) 33 rfl w.heap.size 40 i0 _ 6 56 Tryd.underlying33 hi hz0 hz1 hz2 rfl (by decide) _ _ _ rfl HOWN.out ⟨w4.heap.size, 0, none⟩ 1 1 [.int .i64 (kk), .string (BA (bd)), .int .i64 ((BA R1).size : Nat), .int .i64 ((BA R2).size : Nat), .int .i64 (1 + (nlB (encL R1) : Int)), .int .i64 0] rfl rfl HNW.out lay_one hm0 hbt0 HBW.out ?_; intro v6 w6 hown6 hgr6 _ _; have HOWN6 := Lib.hid hown6; have HGR6 := Lib.hid hgr6; clear hown6 hgr6)
          have hL7 := HL6.out.grown (x := ⟨kk, bd, (encL R1).length, (encL R2).length, 1 + nlB (encL R1)⟩) (by
            have h := HOWN6.out
            have ex : (WT.cells ⟨kk, bd, (encL R1).length, (encL R2).length, 1 + nlB (encL R1)⟩) = [.int .i64 (kk), .string (BA (bd)), .int .i64 ((BA R1).size : Nat), .int .i64 ((BA R2).size : Nat), .int .i64 (1 + (nlB (encL R1) : Int)), .int .i64 0] := by
              unfold WT.cells
              rw [ba_size, ba_size]
              simp
            rw [ex]; exact h) HGR6.out
          have HL7 := Lib.hid hL7
          clear hL7
          refine (add_walk (BA R2) ⟨#[10]⟩ (1 + nlB (encL R2)) _ _ w6 HL7.out.str HL7.out.row (by omega) (by show 1 ≤ _; omega) (by omega)).mono ?_
          rintro e w8 ⟨rfl, q8, q9, hT⟩
          have hL8 := HL7.out.add (A := [10]) q8 q9 hT
          have HL8 := Lib.hid hL8
          clear q8 q9 hT hL8
          go_wp2
          go_roundg g
          case measure => omega
          case rel =>
            refine ⟨k + 1, R2 ++ [10], _, hk2, by go_num, ?_, ?_, HL8.out⟩
            · have h := HACC.out
              rw [show tailR kk = [10] by unfold tailR; rw [if_pos HK4.out]] at h
              exact Lib.hid h
            · rw [List.length_append, hTl]; rfl
        · have hq4 : (kk == 4) = false := by simpa using hk4
          have HK4 := Lib.hid hk4
          clear hk4
          go_wp2_with (at_builtin; refine wpList_append_own_at _ rfl (.tmp 63) (.tmp 65) 33 rfl w.heap.size 40 i0 _ 6 56 Tryd.underlying33 hi hz0 hz1 hz2 rfl (by decide) _ _ _ rfl HOWN.out ⟨w4.heap.size, 0, none⟩ 1 1 [.int .i64 (kk), .string (BA (bd)), .int .i64 ((BA R1).size : Nat), .int .i64 ((BA R2).size : Nat), .int .i64 (1 + (nlB (encL R1) : Int)), .int .i64 0] rfl rfl HNW.out lay_one hm0 hbt0 HBW.out ?_; intro v6 w6 hown6 hgr6 _ _; have HOWN6 := Lib.hid hown6; have HGR6 := Lib.hid hgr6; clear hown6 hgr6)
          have hL7 := HL6.out.grown (x := ⟨kk, bd, (encL R1).length, (encL R2).length, 1 + nlB (encL R1)⟩) (by
            have h := HOWN6.out
            have ex : (WT.cells ⟨kk, bd, (encL R1).length, (encL R2).length, 1 + nlB (encL R1)⟩) = [.int .i64 (kk), .string (BA (bd)), .int .i64 ((BA R1).size : Nat), .int .i64 ((BA R2).size : Nat), .int .i64 (1 + (nlB (encL R1) : Int)), .int .i64 0] := by
              unfold WT.cells
              rw [ba_size, ba_size]
              simp
            rw [ex]; exact h) HGR6.out
          have HL7 := Lib.hid hL7
          clear hL7
          go_roundg g
          case measure => omega
          case rel =>
            refine ⟨k + 1, R2, _, hk2, by go_num, ?_, ?_, HL7.out⟩
            · have h := HACC.out
              rw [show tailR kk = [] by unfold tailR; rw [if_neg HK4.out], List.append_nil] at h
              exact Lib.hid h
            · rw [List.length_append, hTl]; rfl

end Go.Proofs.YtplljfbbipeakaaDoor
