/- (*strings.Reader).Read and strings.NewReader, walked. -/
import Derived.Test.YtplljfbbipeakaaDoorNextH
import Derived.Deep.RegionLaw
import Derived.Deep.QuietTactic
import Derived.Lib.BufferWrite
import Derived.BigQuiet
import Derived.Lib.Hide
namespace Go.Proofs.YtplljfbbipeakaaDoor
open Go Go.RowKit

/-- 'copy(dst, s)', s a string: as many bytes as fit go over. -/
theorem run_copy_part {P : Program} (w : World) (dT sT ty elem : TypeId) (g o dLen dCap k : Nat) (s : ByteArray) (cur : Array Value) (t : TypeId)
    (hu : P.underlying dT = some (.slice elem)) (hs : (P.info? elem).map (·.size) = some 1) (hg : w.heap[g]? = some (.cells cur t (0, 0))) (hk : Nat.min s.size dLen = k) (hfit : o + k ≤ cur.size) :
    (Builtin.copy_ #[dT, sT] ty #[.slice (some ⟨g, o, none⟩) dLen dCap, .string s]).run P w =
      .ok (goInt k) (w.setRow g (cur.toList.take o ++ (Lib.byteCells (s.data.toList.take k) ++ cur.toList.drop (o + k))).toArray) := by
  have hks : k ≤ s.size := by rw [← hk]; exact Nat.min_le_left _ _
  have hlen : (Lib.byteCells (s.data.toList.take k)).length = k := by rw [Lib.byteCells_length, List.length_take, ← Lib.size_eq]; omega
  have hst := run_storeCells_at P g o t (Lib.byteCells (s.data.toList.take k)) 0 cur w hg (by rw [hlen]; simpa using hfit) (Lib.byteCells_one _)
  have htk : List.take k (List.map (fun b : UInt8 => Value.int IntKind.u8 (b.toNat : Int)) s.data.toList) = Lib.byteCells (s.data.toList.take k) := by
    rw [← List.map_take]; rfl
  rw [hlen] at hst
  simp only [Nat.add_zero] at hst
  cases hq : P.info? elem with
  | none => simp [hq] at hs
  | some i =>
    simp [Builtin.copy_, run_underlying hu, Builtin.lenOf, Builtin.firstCells, sizeOf, typeInfo, hq, hk]
    rw [htk, hst]
    simp [Result.andThen]

theorem step_copy_part {P : Program} {ops : Array Oper} {o : Oper} {a : Act} {w : World} {K : Act → World → Prop} {Q : Exit → Act → World → Prop} {E : Prop}
    (hg : o.guard = none) (d x : Operand) (dT sT : TypeId) (hop : o.op = Op.call { callee := Callee.builtin Builtin.copy, args := #[d, x], argTypes := #[dT, sT] })
    (elem : TypeId) (hu : P.underlying dT = some (.slice elem)) (hs : (P.info? elem).map (·.size) = some 1)
    (b off dLen dCap k : Nat) (hd : a.eval d = .slice (some ⟨b, off, none⟩) dLen dCap) (s : ByteArray) (hx : a.eval x = .string s) (cur : Array Value) (t : TypeId) (hh : w.heap[b]? = some (.cells cur t (0, 0)))
    (hk : Nat.min s.size dLen = k) (hfit : off + k ≤ cur.size)
    (hK : K (a.put o.dst (goInt k)) (w.setRow b (cur.toList.take off ++ (Lib.byteCells (s.data.toList.take k) ++ cur.toList.drop (off + k))).toArray)) :
    if Region.wanted o (yielded ops a.tmps) = true then Oper.wp P o a w K Q else E := by
  have hw : Region.wanted o (yielded ops a.tmps) = true := by simp [Region.wanted, hg]
  rw [if_pos hw]
  have hrun := run_copy_part (P := P) w dT sT o.type elem b off dLen dCap k s cur t hu hs hh hk hfit
  unfold Oper.wp
  simp [execOp, hop, resolve, invoke, builtin, hd, hx, hrun, Result.andThen]
  exact hK

theorem info5 : (Tryd.prog.info? 5).map (·.size) = some 1 := by kernel_rfl

set_option maxHeartbeats 1000000 in
theorem newReader_walk (t : ByteArray) (w : World) :
    Calls Tryd.prog 40 #[.string t] w fun e w' => e = .returned (.pointer (some ⟨w.heap.size, 0, none⟩)) ∧ w.alloc (.cells #[.string t, .int .i64 0, .int .i64 (-1)] 90) = w' := by
  go_enter Tryd.func40, Tryd.ntmps40
  go_wp2
  go_ret
  exact ⟨rfl, rfl⟩

/-- At the text's end. -/
theorem read_end {w : World} {rb off : Nat} {pr : Int} {bs : ByteArray} {eof : Value} {sl : Value} (hr : w.heap[rb]? = some (.cells #[.string bs, .int .i64 off, .int .i64 pr] 90 (0, 0))) (hoff : bs.size ≤ off) (he : w.cell? ⟨2, 0, none⟩ = some eof) :
    Calls Tryd.prog 108 #[.pointer (some ⟨rb, 0, none⟩), sl] w fun e w' => e = .returned (.tuple #[.int .i64 0, eof]) ∧ ∃ n, w' = w.drewN n := by
  have c0 := cell_row hr 0 (.string bs) rfl
  have c1 := cell_row hr 1 (.int .i64 off) rfl
  have ho : (bs.size : Int) ≤ (off : Int) := by omega
  have R := Lib.hid hr
  clear hr hoff
  go_enter Tryd.func108, Tryd.ntmps108
  go_wp2
  go_quiet (fail)
  go_wp2
  go_quiet (fail)
  go_wp2
  go_ret2
  exact ⟨rfl, _, by rw [World.drewN_drewN]⟩

set_option maxHeartbeats 2000000 in
set_option maxRecDepth 100000 in
/-- Before the text's end. -/
theorem read_some {w : World} {rb off : Nat} {pr : Int} {bs : ByteArray} {g o n c k : Nat} {cur : Array Value} (hr : w.heap[rb]? = some (.cells #[.string bs, .int .i64 off, .int .i64 pr] 90 (0, 0))) (hoff : off < bs.size) (hsz : bs.size ≤ 4611686018427387904)
    (hg : w.heap[g]? = some (.cells cur 5 (0, 0))) (hk : Nat.min (bs.size - off) n = k) (hfit : o + k ≤ cur.size) :
    Calls Tryd.prog 108 #[.pointer (some ⟨rb, 0, none⟩), .slice (some ⟨g, o, none⟩) n c] w fun e w' => e = .returned (.tuple #[.int .i64 k, .nilIface]) ∧
      w'.heap[rb]? = some (.cells #[.string bs, .int .i64 (off + k : Nat), .int .i64 (-1)] 90 (0, 0)) ∧
      w'.heap[g]? = some (.cells (cur.toList.take o ++ (Lib.byteCells ((bs.data.toList.drop off).take k) ++ cur.toList.drop (o + k))).toArray 5 (0, 0)) ∧
      w'.heap.size = w.heap.size ∧ w'.os = w.os ∧ w'.tape = w.tape ∧ w'.output = w.output ∧ ∀ j, j ≠ rb → j ≠ g → w'.heap[j]? = w.heap[j]? := by
  have c0 := cell_row hr 0 (.string bs) rfl
  have c1 := cell_row hr 1 (.int .i64 off) rfl
  have c2 := cell_row hr 2 (.int .i64 pr) rfl
  have f1 := free_row hr 1
  have f2 := free_row hr 2
  have ho : (off : Int) < (bs.size : Int) := by omega
  have hon : off ≤ bs.size := by omega
  have R := Lib.hid hr
  have G := Lib.hid hg
  have HK := Lib.hid hk
  have HF := Lib.hid hfit
  clear hr hg hk hfit
  go_enter Tryd.func108, Tryd.ntmps108
  go_wp2
  go_quiet (fail)
  go_wp2
  have hne : g ≠ rb := fun e => by subst e; have := G.out; rw [R.out] at this; cases this
  refine gen_wp (fun W => W.heap[rb]? = some (.cells #[.string bs, .int .i64 off, .int .i64 (-1)] 90 (0, 0)) ∧ W.heap[g]? = some (.cells cur 5 (0, 0)) ∧ W.heap.size = w.heap.size ∧ W.os = w.os ∧ W.tape = w.tape ∧ W.output = w.output ∧ ∀ j, j ≠ rb → W.heap[j]? = w.heap[j]?) ⟨?_, ?_, ?_, rfl, rfl, rfl, ?_⟩ ?_
  · exact row_set (w := w.drewN nq) _ R.out
  · exact row_set_other _ hne G.out
  · simp [World.setCell]
  · exact fun j hj => Below.heap_setCell _ _ _ _ hj
  clear c0 c1 c2 f1 f2
  rintro W ⟨hr, hg, hWs, hos, htp, hou, hot⟩
  have c0 := cell_row hr 0 (.string bs) rfl
  have c1 := cell_row hr 1 (.int .i64 off) rfl
  have R2 := Lib.hid hr
  have G2 := Lib.hid hg
  have O2 := Lib.hid hot
  clear hr hg hot
  have hks : Nat.min (bs.extract off bs.size).size n = k := by rw [ByteArray.size_extract, Nat.min_self]; exact HK.out
  have KS := Lib.hid hks
  clear hks
  go_region_law (refine step_copy_part rfl (.tmp 20) (.tmp 29) 81 9 rfl 5 Tryd.underlying81 info5 g o n c k rfl _ rfl cur 5 G2.out KS.out HF.out ?_)
  all_goals
    refine gen_then (fun W2 => W2.heap[rb]? = some (.cells #[.string bs, .int .i64 off, .int .i64 (-1)] 90 (0, 0)) ∧
      W2.heap[g]? = some (.cells (cur.toList.take o ++ (Lib.byteCells ((bs.data.toList.drop off).take k) ++ cur.toList.drop (o + k))).toArray 5 (0, 0)) ∧ W2.heap.size = w.heap.size ∧ W2.os = w.os ∧ W2.tape = w.tape ∧ W2.output = w.output ∧ ∀ j, j ≠ rb → j ≠ g → W2.heap[j]? = w.heap[j]?) ⟨?_, ?_, ?_, ?_, ?_, ?_, ?_⟩ ?_
    · show (World.setRow _ g _).heap[rb]? = _
      rw [setRow_other _ g rb _ (Ne.symm hne)]
      exact R2.out
    · have e : List.take k (List.take (bs.size - off) (List.drop off bs.data.toList)) = (bs.data.toList.drop off).take k := by
        rw [List.take_take, Nat.min_eq_left]
        rw [← HK.out]; exact Nat.min_le_left _ _
      rw [← e]
      exact setRow_heap W.drew g _ _ 5 (0, 0) G2.out
    · simp [World.setRow, hWs]
    · exact hos
    · exact htp
    · exact hou
    · intro j h1 h2
      show (World.setRow _ g _).heap[j]? = _
      rw [setRow_other _ g j _ h2]
      exact O2.out j h1
    clear c0 c1
    rintro W2 ⟨r3, g3, s3, o3, t3, u3, b3⟩
    have c1 := cell_row r3 1 (.int .i64 off) rfl
    have f1 := free_row r3 1
    have hkb : k ≤ bs.size - off := by rw [← HK.out]; exact Nat.min_le_left _ _
    have hw1 : wrap64 ((off : Int) + (k : Int)) = ((off + k : Nat) : Int) := by rw [IntWalk.wrap64_in _ ⟨by omega, by omega⟩]; omega
    have R3 := Lib.hid r3
    have G3 := Lib.hid g3
    have B3 := Lib.hid b3
    clear r3 g3 b3 hkb
    go_wp2
    go_ret2
    refine ⟨rfl, row_set _ R3.out, row_set_other _ hne G3.out, by simpa [World.setCell] using s3, o3, t3, u3, fun j h1 h2 => ?_⟩
    rw [Below.heap_setCell _ _ _ _ h1]
    exact B3.out j h1 h2

end Go.Proofs.YtplljfbbipeakaaDoor
