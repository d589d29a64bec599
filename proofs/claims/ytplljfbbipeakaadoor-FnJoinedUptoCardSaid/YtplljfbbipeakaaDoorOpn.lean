/- Arguments opened: slices of pieces, of ints, of strings; their bulk bounds what they hold. -/
import Derived.Test.YtplljfbbipeakaaDoorRows
import Derived.Test.YtplljfbbipeakaaDoorPl3
import Derived.SliceStrings
import Derived.Deep.Slices
import Derived.Deep.Fields
import Derived.ChangeSame
namespace Go.Proofs.YtplljfbbipeakaaDoor
open Go Go.RowKit Go.ChangeShapes Go.WideShapes

theorem cellsOf3 : Tryd.prog.cellsOf 3 = 1 := by kernel_rfl
theorem cellsOf9 : Tryd.prog.cellsOf 9 = 1 := by kernel_rfl
theorem cellsOf43 : Tryd.prog.cellsOf 43 = 3 := by kernel_rfl

section
variable {H : Type} {enc : TypeId × Value → H} {W : World} {d : DataW H} {p : List MemPlace} {ao : Option Addr} {l c : Nat}

def pvD (q : PV) : DataW H := .agg [.lit (.int .i64 q.k), .lit (.int .i64 q.n), .lit (.string q.t.data.toList)]
theorem pvD_bulk (q : PV) : q.t.size + 1 ≤ Rows.uptoBulk (pvD (H := H) q) := by
  have e : q.t.data.toList.length = q.t.size := Array.length_toList
  simp only [pvD, Rows.uptoBulk, Rows.uptoBulkAll, e]
  omega
theorem pvs_bulk : ∀ ps : List PV, sumZ ps ≤ Rows.uptoBulkAll (ps.map (pvD (H := H)))
  | [] => Nat.zero_le _
  | q :: ps => by
    have h1 := pvs_bulk ps
    have h2 := pvD_bulk (H := H) q
    have e : sumZ (q :: ps) = q.t.size + 1 + sumZ ps := by unfold sumZ; rw [List.map_cons, List.sum_cons]
    rw [e, List.map_cons]
    show _ ≤ Rows.uptoBulk (pvD (H := H) q) + Rows.uptoBulkAll (ps.map (pvD (H := H)))
    omega

theorem bulk_slice (a b : List (DataW H)) : Rows.uptoBulk (.slice a b) = Rows.uptoBulkAll a + Rows.uptoBulkAll b + 1 := by rw [Rows.uptoBulk]
theorem ints_bulk : ∀ zs : List Int, Rows.uptoBulkAll (lits (H := H) .i64 zs) = zs.length
  | [] => rfl
  | z :: zs => by
    have h := ints_bulk zs
    show Rows.uptoBulk (DataW.lit (H := H) (.int .i64 z)) + Rows.uptoBulkAll (lits (H := H) .i64 zs) = zs.length + 1
    rw [h]
    show 1 + zs.length = _
    omega
theorem strs_bulk : ∀ ss : List ByteArray, ss.length ≤ Rows.uptoBulkAll (strs (H := H) ss) ∧ ∀ s ∈ ss, s.data.toList.length ≤ Rows.uptoBulkAll (strs (H := H) ss)
  | [] => ⟨Nat.le_refl _, fun s hs => by cases hs⟩
  | x :: ss => by
    obtain ⟨h1, h2⟩ := strs_bulk ss
    have e : Rows.uptoBulkAll (strs (H := H) (x :: ss)) = (x.data.toList.length + 1) + Rows.uptoBulkAll (strs (H := H) ss) := rfl
    rw [e]
    refine ⟨by rw [List.length_cons]; omega, fun s hs => ?_⟩
    rcases List.mem_cons.1 hs with rfl | hs
    · omega
    · have := h2 s hs; omega
/-- The bound, as the row's condition hands it over. -/
theorem bulk_bound {l : List (DataW H)} (hk : Rows.uptoSmall H l = true) : Rows.uptoBulkAll l ≤ 1048576 := of_decide_eq_true hk

theorem addr_spot {a : Addr} {u : Value} (h : W.cell? a = some u) : a = ⟨a.block, a.off, none⟩ := by
  obtain ⟨b, o, sp⟩ := a
  unfold World.cell? at h
  cases sp with
  | none => rfl
  | some x =>
    simp only at h
    split at h <;> simp at h

theorem addr_ox (b o i : Nat) : (⟨b, o, none⟩ : Addr).add i = ⟨b, o + i, none⟩ := by
  unfold Addr.add
  split
  · rename_i h; rw [h]; rfl
  · rfl

theorem piece_open {n : Nat} {a : Addr} {dd : DataW H} {pl : List MemPlace} {cs : List Value} (hc : W.cells? 0 a 3 = some cs) (ht : DataW.trod enc Tryd.prog W 0 (fun _ => true) true n 43 cs = some (dd, pl)) :
    ∃ q : PV, W.cell? a = some (.int .i64 q.k) ∧ W.cell? (a.add 1) = some (.int .i64 q.n) ∧ W.cell? (a.add 2) = some (.string q.t) ∧ dd = pvD q := by
  obtain ⟨_, hl, hat⟩ := World.cells?_some hc
  match cs, hl with
  | [u0, u1, u2], _ =>
    obtain ⟨xs, n', _, hx, _, hxl, hf⟩ := DataW.trod_struct Tryd.underlying43 ht
    match xs, hxl with
    | [y0, y1, y2], _ =>
      have g0 : DataW.trod enc Tryd.prog W 0 (fun _ => true) true n' 3 (([u0, u1, u2].drop 0).take (Tryd.prog.cellsOf 3)) = some y0 := hf 0 _ rfl
      have g1 : DataW.trod enc Tryd.prog W 0 (fun _ => true) true n' 3 (([u0, u1, u2].drop 1).take (Tryd.prog.cellsOf 3)) = some y1 := hf 1 _ rfl
      have g2 : DataW.trod enc Tryd.prog W 0 (fun _ => true) true n' 9 (([u0, u1, u2].drop 2).take (Tryd.prog.cellsOf 9)) = some y2 := hf 2 _ rfl
      rw [cellsOf3] at g0 g1
      rw [cellsOf9] at g2
      obtain ⟨k, e0, rfl, _⟩ := DataW.trod_int Tryd.underlying3 g0
      obtain ⟨m, e1, rfl, _⟩ := DataW.trod_int Tryd.underlying3 g1
      obtain ⟨s, e2, rfl, _⟩ := DataW.trod_string Tryd.underlying9 g2
      have k0 := hat 0 (by decide)
      have k1 := hat 1 (by decide)
      have k2 := hat 2 (by decide)
      cases e0
      cases e1
      cases e2
      refine ⟨⟨k, m, s⟩, k0, k1, k2, ?_⟩
      simp only [Prod.mk.injEq] at hx
      exact hx.1

/-- A SLICE OF PIECES. -/
theorem pieces_open (h : DataW.Trod enc Tryd.prog W 0 (fun _ => true) true 29 (.slice ao l c) d p) : ∃ ps, PiecesAt (.slice ao l c) ps W ∧ sumZ ps ≤ Rows.uptoBulk d := by
  obtain ⟨fuel, hf⟩ := h
  rcases Go.Deep.open_slice Tryd.underlying29 hf with ⟨hcs, hx⟩ | ⟨a, len, cap, m, n, D, Pl, hcs, _, hl, _, hmm, hx, hi⟩
  · cases hcs
    exact ⟨[], ⟨none, 0, rfl, fun j hj => by cases hj⟩, Nat.zero_le _⟩
  · cases hcs
    rw [if_pos rfl] at hmm
    subst hmm
    rw [cellsOf43] at hi hx
    have each : ∀ i, i < l → ∃ q : PV, W.cell? (a.add (i * 3)) = some (.int .i64 q.k) ∧ W.cell? ((a.add (i * 3)).add 1) = some (.int .i64 q.n) ∧ W.cell? ((a.add (i * 3)).add 2) = some (.string q.t) ∧ D i = pvD q := by
      intro i hil
      obtain ⟨cs', h1, h2⟩ := hi i (by omega)
      exact piece_open h1 h2
    have : Inhabited PV := ⟨⟨0, 0, ⟨#[]⟩⟩⟩
    obtain ⟨F, hF⟩ := Go.Deep.choose_lt each
    refine ⟨(List.range l).map F, ⟨some a, m, by rw [List.length_map, List.length_range], ?_⟩, ?_⟩
    · intro j hj
      rw [List.length_map, List.length_range] at hj
      have hgd : ((List.range l).map F).getD j ⟨0, 0, ⟨#[]⟩⟩ = F j := by
        rw [List.getD_eq_getElem?_getD, List.getElem?_map, List.getElem?_range hj]; rfl
      rw [hgd]
      obtain ⟨c0, c1, c2, _⟩ := hF j hj
      obtain ⟨z0, _⟩ := hF 0 (by omega)
      have hsp : a = ⟨a.block, a.off, none⟩ := addr_spot (W := W) (a := a) (u := .int .i64 (F 0).k) (by simpa [Addr.add] using z0)
      refine ⟨a.block, a.off, congrArg some hsp, World.block_lt_of_cell? W a (by simpa [Addr.add] using z0), ?_, ?_, ?_⟩
      · rw [hsp] at c0
        rw [addr_ox] at c0; exact c0
      · rw [hsp] at c1
        rw [addr_ox, addr_ox] at c1; exact c1
      · rw [hsp] at c2
        rw [addr_ox, addr_ox] at c2; exact c2
    · have hD : (List.range l).map D = ((List.range l).map F).map (pvD (H := H)) := by
        rw [List.map_map]
        exact List.map_congr_left (fun i hil => (hF i (List.mem_range.1 hil)).2.2.2)
      have hd : d = .slice ((List.range l).map D) ((List.range (m - l)).map fun j => D (l + j)) := congrArg Prod.fst hx
      have h1 := pvs_bulk (H := H) ((List.range l).map F)
      rw [hd, bulk_slice, hD]
      omega

/-- A slice of ints. -/
theorem ints_open (h : DataW.Trod enc Tryd.prog W 0 (fun _ => true) true 23 (.slice ao l c) d p) : ∃ gs, IntsAt (.slice ao l c) gs W ∧ gs.length ≤ Rows.uptoBulk d := by
  obtain ⟨fuel, hf⟩ := h
  rcases open_ints Tryd.underlying23 Tryd.underlying3 cellsOf3 hf with ⟨hcs, hx⟩ | ⟨a, len, cap, zs, hcs, _, hl, _, hz, hx, hcell, _⟩
  · cases hcs
    exact ⟨[], ⟨none, 0, rfl, fun j hj => by cases hj⟩, Nat.zero_le _⟩
  · cases hcs
    rw [if_pos rfl] at hz
    have hlen : (zs.take l).length = l := by rw [List.length_take]; omega
    refine ⟨zs.take l, ⟨some a, c, by rw [hlen], ?_⟩, ?_⟩
    · intro j hj
      rw [hlen] at hj
      have hc := hcell j (by omega)
      refine ⟨a, rfl, ?_, ?_⟩
      · have := World.block_lt_of_cell? W _ hc
        rwa [Addr.add_block] at this
      · rw [hc, List.getD_eq_getElem?_getD, List.getD_eq_getElem?_getD, List.getElem?_take_of_lt hj]
    · have hd : d = .slice (lits .i64 (zs.take l)) (lits .i64 (zs.drop l)) := congrArg Prod.fst hx
      rw [hd, bulk_slice, ints_bulk]
      omega

/-- A slice of strings. -/
theorem strs_open (h : DataW.Trod enc Tryd.prog W 0 (fun _ => true) true 22 (.slice ao l c) d p) : ∃ X, StrsAt (.slice ao l c) X W ∧ X.length ≤ Rows.uptoBulk d ∧ ∀ m ∈ X, m.length ≤ Rows.uptoBulk d := by
  obtain ⟨fuel, hf⟩ := h
  rcases open_strings Tryd.underlying22 Tryd.underlying9 cellsOf9 hf with ⟨hcs, hx⟩ | ⟨a, len, cap, ss, hcs, _, hl, _, hz, hx, hcell, _⟩
  · cases hcs
    exact ⟨[], ⟨none, 0, rfl, fun j hj => by cases hj⟩, Nat.zero_le _, fun m hm => by cases hm⟩
  · cases hcs
    rw [if_pos rfl] at hz
    have hlen : ((ss.take l).map (fun s : ByteArray => s.data.toList)).length = l := by rw [List.length_map, List.length_take]; omega
    have hd : d = .slice (strs (ss.take l)) (strs (ss.drop l)) := congrArg Prod.fst hx
    have hb := strs_bulk (H := H) (ss.take l)
    refine ⟨(ss.take l).map (fun s : ByteArray => s.data.toList), ⟨some a, c, by rw [hlen], ?_⟩, ?_, ?_⟩
    · intro j hj
      rw [hlen] at hj
      have hc := hcell j (by omega)
      refine ⟨a, rfl, ?_, ?_⟩
      · have := World.block_lt_of_cell? W _ hc
        rwa [Addr.add_block] at this
      · have hjs : j < ss.length := by omega
        have e : ((ss.take l).map (fun s : ByteArray => s.data.toList)).getD j [] = (ss.getD j ByteArray.empty).data.toList := by
          rw [List.getD_eq_getElem?_getD, List.getElem?_map, List.getElem?_take_of_lt hj, List.getD_eq_getElem?_getD, List.getElem?_eq_getElem hjs]; rfl
        rw [hc, e]
    · rw [hd, bulk_slice, List.length_map]
      omega
    · intro m hm
      obtain ⟨s, hs, rfl⟩ := List.mem_map.1 hm
      have := hb.2 s hs
      rw [hd, bulk_slice]
      omega
end

end Go.Proofs.YtplljfbbipeakaaDoor
