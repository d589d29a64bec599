/- io.ReadAll: the chunks, and where its loop stands. -/
import Derived.Test.YtplljfbbipeakaaDoorRd
import Derived.Deep.LoopGhost
import Derived.Deep.AppendLies
import Derived.Lib.AppendZeros
import Derived.Handy
import Derived.Maps.AppendAt
namespace Go.Proofs.YtplljfbbipeakaaDoor
open Go Go.RowKit

/-- A chunk: its block, its length, its capacity; and the bytes it holds, from place off on. -/
def ChunkAt (bs : ByteArray) (w : World) (g len off : Nat) : Prop :=
  ∃ cur : Array Value, w.heap[g]? = some (.cells cur 5 (0, 0)) ∧ len ≤ cur.size ∧ ∀ j, j < len → cur[j]? = some (.int .u8 (bs.get! (off + j)).toNat)

/-- The chunks that were put aside, from place off on. -/
def ChunksAt (bs : ByteArray) (B : Nat) (w : World) : List (Nat × Nat × Nat) → Nat → Prop
  | [], _ => True
  | c :: r, off => B ≤ c.1 ∧ 0 < c.2.1 ∧ ChunkAt bs w c.1 c.2.1 off ∧ ChunksAt bs B w r (off + c.2.1)

def chunkVal (c : Nat × Nat × Nat) : Value := .slice (some ⟨c.1, 0, none⟩) c.2.1 c.2.2
def chunkSum (l : List (Nat × Nat × Nat)) : Nat := (l.map (·.2.1)).sum

/-- What stays, but for the reader's block rb. -/
structure Stays (B rb : Nat) (w w' : World) : Prop where
  os : w'.os = w.os
  tape : w'.tape = w.tape
  output : w'.output = w.output
  size : w.heap.size ≤ w'.heap.size
  block : ∀ k, k < B → k ≠ rb → w'.heap[k]? = w.heap[k]?

theorem info153 : (Tryd.prog.info? 153).map (·.comparable) = some true := by kernel_rfl
theorem under153 : Tryd.prog.underlying 153 = some (.pointer 168) := by kernel_rfl
theorem under63 : ∃ ms, Tryd.prog.underlying 63 = some (.interface ms) := ⟨_, Tryd.underlying63⟩
theorem eq_eof (a : Addr) (w : World) : (binOp .eql 63 (.iface 153 (.pointer (some a))) (.iface 153 (.pointer (some a)))).run Tryd.prog w = .ok (.bool true) w := by
  obtain ⟨ms, ht⟩ := under63
  have hx := under153
  cases hi : Tryd.prog.info? 153 with
  | none => have := info153; simp [hi] at this
  | some i =>
    have hcc : i.comparable = true := by have := info153; simpa [hi] using this
    have h : ∀ d : Nat, (Op.equalIn (d + 2) 63 (.iface 153 (.pointer (some a))) (.iface 153 (.pointer (some a)))).run Tryd.prog w = .ok true w := fun d => by
      simp [Op.equalIn, run_underlying ht, run_underlying hx, typeInfo, hi, hcc, sameAddr]
    simp only [binOp]
    simp [Op.equal, Op.maxDepth, h 9998]

/-- The text's bytes as cells: n of them from place o on. -/
def bv (bs : ByteArray) (o n : Nat) : List Value := (List.range n).map fun j => .int .u8 (bs.get! (o + j)).toNat
theorem bv_len (bs : ByteArray) (o n : Nat) : (bv bs o n).length = n := by simp [bv]
theorem bv_get (bs : ByteArray) (o n j : Nat) (h : j < n) : (bv bs o n)[j]? = some (.int .u8 (bs.get! (o + j)).toNat) := by
  simp [bv, List.getElem?_map, List.getElem?_range h]
theorem bv_add (bs : ByteArray) (o n m : Nat) : bv bs o (n + m) = bv bs o n ++ bv bs (o + n) m := by
  unfold bv
  rw [List.range_add, List.map_append, List.map_map]
  congr 1
  apply List.map_congr_left
  intro a _
  simp [Nat.add_assoc]
theorem bv_one (bs : ByteArray) (o n : Nat) : ∀ u ∈ bv bs o n, u.oneCell' = true := by
  intro u hu
  obtain ⟨j, _, rfl⟩ := List.mem_map.1 hu
  rfl
theorem add0 (g j : Nat) : (⟨g, 0, none⟩ : Addr).add j = ⟨g, j, none⟩ := by
  unfold Addr.add; split
  · subst_vars; rfl
  · simp
theorem ChunkAt.news {bs : ByteArray} {w : World} {g len off : Nat} (h : ChunkAt bs w g len off) : ∀ j u, (bv bs off len)[j]? = some u → w.cell? ((⟨g, 0, none⟩ : Addr).add j) = some u := by
  obtain ⟨cur, hg, _, hb⟩ := h
  intro j u hu
  have hj : j < len := by
    rcases Nat.lt_or_ge j len with h | h
    · exact h
    · rw [List.getElem?_eq_none (by rw [bv_len]; exact h)] at hu; cases hu
  rw [bv_get bs off len j hj] at hu
  cases hu
  rw [add0]
  exact cell_row hg j _ (hb j hj)
theorem ChunkAt.of_block {bs : ByteArray} {w w' : World} {g len off : Nat} (h : ChunkAt bs w g len off) (e : w'.heap[g]? = w.heap[g]?) : ChunkAt bs w' g len off := by
  obtain ⟨cur, hg, h2, h3⟩ := h
  exact ⟨cur, e.trans hg, h2, h3⟩
theorem ChunkAt.lt {bs : ByteArray} {w : World} {g len off : Nat} (h : ChunkAt bs w g len off) : g < w.heap.size := by
  obtain ⟨cur, hg, _⟩ := h
  exact lt_of_block hg
theorem ChunksAt.at {bs : ByteArray} {B : Nat} {w : World} : ∀ {cs : List (Nat × Nat × Nat)} {off : Nat}, ChunksAt bs B w cs off → ∀ j c, cs[j]? = some c → B ≤ c.1 ∧ 0 < c.2.1 ∧ ChunkAt bs w c.1 c.2.1 (off + chunkSum (cs.take j))
  | [], _, _, j, c, hc => by simp at hc
  | d :: r, off, h, 0, c, hc => by
    simp at hc
    subst hc
    exact ⟨h.1, h.2.1, by simpa [chunkSum] using h.2.2.1⟩
  | d :: r, off, h, j + 1, c, hc => by
    have := ChunksAt.at h.2.2.2 j c (by simpa using hc)
    refine ⟨this.1, this.2.1, ?_⟩
    have e : off + chunkSum (List.take (j + 1) (d :: r)) = off + d.2.1 + chunkSum (r.take j) := by simp [chunkSum, Nat.add_assoc]
    rw [e]
    exact this.2.2
theorem ChunksAt.of_blocks {bs : ByteArray} {B : Nat} {w w' : World} : ∀ {cs : List (Nat × Nat × Nat)} {off : Nat}, ChunksAt bs B w cs off → (∀ c ∈ cs, w'.heap[c.1]? = w.heap[c.1]?) → ChunksAt bs B w' cs off
  | [], _, _, _ => trivial
  | _ :: _, _, h, e => ⟨h.1, h.2.1, h.2.2.1.of_block (e _ (by simp)), ChunksAt.of_blocks h.2.2.2 fun c hc => e c (by simp [hc])⟩
theorem ChunksAt.snoc {bs : ByteArray} {B : Nat} {w : World} {g len cap : Nat} : ∀ {cs : List (Nat × Nat × Nat)} {off : Nat}, ChunksAt bs B w cs off → B ≤ g → 0 < len → ChunkAt bs w g len (off + chunkSum cs) → ChunksAt bs B w (cs ++ [(g, len, cap)]) off
  | [], off, _, h1, h2, h3 => ⟨h1, h2, by simpa [chunkSum] using h3, trivial⟩
  | d :: r, off, h, h1, h2, h3 => by
    have e : off + d.2.1 + chunkSum r = off + chunkSum (d :: r) := by simp [chunkSum, Nat.add_assoc]
    exact ⟨h.1, h.2.1, h.2.2.1, ChunksAt.snoc h.2.2.2 h1 h2 (by rw [e]; exact h3)⟩
theorem ChunksAt.pos {bs : ByteArray} {B : Nat} {w : World} {c : Nat × Nat × Nat} {cs : List (Nat × Nat × Nat)} {off : Nat} (h : ChunksAt bs B w (c :: cs) off) : 0 < chunkSum (c :: cs) := by
  have := h.2.1
  simp [chunkSum]; omega
theorem chunkSum_take_succ (cs : List (Nat × Nat × Nat)) (j : Nat) (c : Nat × Nat × Nat) (h : cs[j]? = some c) : chunkSum (cs.take (j + 1)) = chunkSum (cs.take j) + c.2.1 := by
  rw [List.take_add_one, h]
  simp [chunkSum]
theorem chunkSum_append (a b : List (Nat × Nat × Nat)) : chunkSum (a ++ b) = chunkSum a + chunkSum b := by simp [chunkSum]
theorem chunkSum_take_le (cs : List (Nat × Nat × Nat)) (j : Nat) : chunkSum (cs.take j) ≤ chunkSum cs := by
  have e := chunkSum_append (cs.take j) (cs.drop j)
  rw [List.take_append_drop] at e
  omega

/-- Where the loop stands. -/
structure RdInv (bs : ByteArray) (B rb : Nat) (w0 : World) (k : Nat) (w : World) (g len cap next cg cc : Nat) (cs : List (Nat × Nat × Nat)) (pr : Int) (cur : Array Value) : Prop where
  off : k + (chunkSum cs + len) = bs.size
  hg : w.heap[g]? = some (.cells cur 5 (0, 0))
  capc : cap ≤ cur.size
  lcap : len ≤ cap
  cap256 : 256 ≤ cap
  capm : cap ≤ maxLen
  bytes : ∀ j, j < len → cur[j]? = some (.int .u8 (bs.get! (chunkSum cs + j)).toNat)
  gB : B ≤ g
  gcs : ∀ c ∈ cs, c.1 ≠ g
  nx0 : 256 ≤ next
  nx1 : next ≤ 256 + 3 * chunkSum cs
  nx2 : 2 * next ≤ 3 * cap
  own : w.ownsRow B 81 1 (.slice (some ⟨cg, 0, none⟩) cs.length cc) cs.length (cs.map chunkVal)
  chunks : ChunksAt bs B w cs 0
  rd : w.heap[rb]? = some (.cells #[.string bs, .int .i64 (chunkSum cs + len : Nat), .int .i64 pr] 90 (0, 0))
  st : Stays B rb w0 w
  sz : B ≤ w.heap.size
  rbB : rb < B

theorem RdInv.moved {bs : ByteArray} {B rb : Nat} {w0 : World} {k : Nat} {w : World} {g len cap next cg cc : Nat} {cs : List (Nat × Nat × Nat)} {pr : Int} {cur : Array Value} (I : RdInv bs B rb w0 k w g len cap next cg cc cs pr cur) {w' : World}
    (hh : w'.heap = w.heap) (ho : w'.os = w.os) (ht : w'.tape = w.tape) (hu : w'.output = w.output) : RdInv bs B rb w0 k w' g len cap next cg cc cs pr cur :=
  ⟨I.off, by rw [hh]; exact I.hg, I.capc, I.lcap, I.cap256, I.capm, I.bytes, I.gB, I.gcs, I.nx0, I.nx1, I.nx2, by have := I.own; unfold World.ownsRow at this ⊢; rw [hh]; exact this,
    I.chunks.of_blocks fun _ _ => by rw [hh], by rw [hh]; exact I.rd, ⟨ho.trans I.st.os, ht.trans I.st.tape, hu.trans I.st.output, by rw [hh]; exact I.st.size, fun j h1 h2 => by rw [hh]; exact I.st.block j h1 h2⟩, by rw [hh]; exact I.sz, I.rbB⟩

theorem owns_of_block {w w' : World} {base : Nat} {e : TypeId} {size n g cap : Nat} {xs : List Value} (h : w.ownsRow base e size (.slice (some ⟨g, 0, none⟩) n cap) n xs) (hb : w'.heap[g]? = w.heap[g]?) : w'.ownsRow base e size (.slice (some ⟨g, 0, none⟩) n cap) n xs := by
  refine ⟨h.1, ?_⟩
  rcases h.2 with ⟨h1, _⟩ | ⟨g', cap', cur', hv, hB, hg, r⟩
  · cases h1
  · cases hv
    exact Or.inr ⟨g, cap, cur', rfl, hB, hb.trans hg, r⟩
theorem owns_block {w : World} {base : Nat} {e : TypeId} {size n g cap : Nat} {xs : List Value} (h : w.ownsRow base e size (.slice (some ⟨g, 0, none⟩) n cap) n xs) : base ≤ g ∧ ∃ cur, w.heap[g]? = some (.cells cur e (0, 0)) := by
  rcases h.2 with ⟨h1, _⟩ | ⟨g', cap', cur', hv, hB, hg, r⟩
  · cases h1
  · cases hv
    exact ⟨hB, cur', hg⟩

/-- Behind one Read. -/
theorem RdInv.read {bs : ByteArray} {B rb : Nat} {w0 : World} {k kk : Nat} {w : World} {g len cap next cg cc : Nat} {cs : List (Nat × Nat × Nat)} {pr : Int} {cur : Array Value} (I : RdInv bs B rb w0 k w g len cap next cg cc cs pr cur) {w' : World} (hkk : kk ≤ k) (hkc : kk ≤ cap - len)
    (h1 : w'.heap[rb]? = some (.cells #[.string bs, .int .i64 (chunkSum cs + len + kk : Nat), .int .i64 (-1)] 90 (0, 0)))
    (h2 : w'.heap[g]? = some (.cells (cur.toList.take len ++ (Lib.byteCells ((bs.data.toList.drop (chunkSum cs + len)).take kk) ++ cur.toList.drop (len + kk))).toArray 5 (0, 0)))
    (h3 : w'.heap.size = w.heap.size) (ho : w'.os = w.os) (ht : w'.tape = w.tape) (hu : w'.output = w.output) (hb : ∀ j, j ≠ rb → j ≠ g → w'.heap[j]? = w.heap[j]?) :
    RdInv bs B rb w0 (k - kk) w' g (len + kk) cap next cg cc cs (-1) (cur.toList.take len ++ (Lib.byteCells ((bs.data.toList.drop (chunkSum cs + len)).take kk) ++ cur.toList.drop (len + kk))).toArray := by
  have i1 := I.off
  have i3 := I.capc
  have i4 := I.lcap
  have i9 := I.gB
  have i18 := I.rbB
  obtain ⟨hcB, cur81, hc81⟩ := owns_block I.own
  have hcg : cg ≠ g := fun e => by subst e; rw [I.hg] at hc81; cases hc81
  have hcr : cg ≠ rb := by omega
  have hl1 : (Lib.byteCells ((bs.data.toList.drop (chunkSum cs + len)).take kk)).length = kk := by
    rw [Lib.byteCells_length, List.length_take, List.length_drop, ← Lib.size_eq]; omega
  refine ⟨by omega, h2, ?_, by omega, I.cap256, I.capm, ?_, I.gB, I.gcs, I.nx0, I.nx1, I.nx2, owns_of_block I.own (hb cg hcr hcg), ?_, ?_, ?_, by rw [h3]; exact I.sz, I.rbB⟩
  · simp only [List.size_toArray, List.length_append, List.length_take, List.length_drop, hl1, Array.length_toList]
    omega
  · intro j hj
    simp only [List.getElem?_toArray]
    rcases Nat.lt_or_ge j len with hjl | hjl
    · rw [List.getElem?_append_left (by rw [List.length_take, Array.length_toList]; omega), List.getElem?_take_of_lt hjl]
      simpa using I.bytes j hjl
    · rw [List.getElem?_append_right (by rw [List.length_take, Array.length_toList]; omega), List.length_take, Array.length_toList, Nat.min_eq_left (by omega), List.getElem?_append_left (by rw [hl1]; omega)]
      unfold Lib.byteCells
      rw [List.getElem?_map, List.getElem?_take_of_lt (by omega), List.getElem?_drop]
      have hq : chunkSum cs + len + (j - len) = chunkSum cs + j := by omega
      rw [hq]
      have hlt : chunkSum cs + j < bs.size := by omega
      have : bs.data.toList[chunkSum cs + j]? = some (bs.get! (chunkSum cs + j)) := by
        rw [List.getElem?_eq_getElem (by rw [← Lib.size_eq]; exact hlt)]
        simp [ByteArray.get!, getElem!_pos, hlt]
      rw [this]
      rfl
  · refine I.chunks.of_blocks fun c hc => hb c.1 ?_ (I.gcs c hc)
    obtain ⟨j, hj⟩ := List.getElem?_of_mem hc
    have := (I.chunks.at j c hj).1
    omega
  · rw [h1, Nat.add_assoc]
  · exact ⟨ho.trans I.st.os, ht.trans I.st.tape, hu.trans I.st.output, by rw [h3]; exact I.st.size, fun j h4 h5 => (hb j h5 (by omega)).trans (I.st.block j h4 h5)⟩

/-- A full chunk is put aside, and a new one is made. -/
theorem RdInv.aside {bs : ByteArray} {B rb : Nat} {w0 : World} {k : Nat} {w : World} {g len cap next cg cc : Nat} {cs : List (Nat × Nat × Nat)} {pr : Int} {cur : Array Value} (I : RdInv bs B rb w0 k w g len cap next cg cc cs pr cur) {w2 w3 : World} {cg2 cc2 CAP : Nat} {Z : Array Value} {o : Obj}
    (hlen : 0 < len) (hfull : cap - len < cap / 16) (hown : w2.ownsRow B 81 1 (.slice (some ⟨cg2, 0, none⟩) (cs.length + 1) cc2) (cs.length + 1) (cs.map chunkVal ++ [chunkVal (g, len, cap)])) (hgr : (w.alloc o).grownBy w2 (some cg))
    (hZ : Z.size = CAP) (hn : next ≤ CAP) (hm : CAP ≤ maxLen) (hh : w3.heap = (w2.alloc (.cells Z 5)).heap) (h1 : w3.os = w2.os) (h2 : w3.tape = w2.tape) (h3 : w3.output = w2.output) :
    RdInv bs B rb w0 k w3 w2.heap.size 0 CAP (next + next / 2) cg2 cc2 (cs ++ [(g, len, cap)]) pr Z := by
  obtain ⟨hcB, cur81, hc81⟩ := owns_block I.own
  have hcs : chunkSum (cs ++ [(g, len, cap)]) = chunkSum cs + len := by rw [chunkSum_append]; simp [chunkSum]
  have old : ∀ j, j < w.heap.size → j ≠ cg → w3.heap[j]? = w.heap[j]? := fun j hj hne => by
    have e1 : (w.alloc o).heap[j]? = w.heap[j]? := Below.heap_alloc _ _ _ hj
    have hj2 : j < (w.alloc o).heap.size := by rw [World.size_alloc]; omega
    have e2 := hgr.block j hj2 (fun e => hne (Option.some.inj e))
    have hj3 : j < w2.heap.size := Nat.lt_of_lt_of_le hj2 hgr.size
    rw [hh, Below.heap_alloc _ _ _ hj3, e2, e1]
  have hg5 : g ≠ cg := fun e => by have := I.hg; rw [e, hc81] at this; cases this
  have hrb : rb ≠ cg := by have := I.rbB; omega
  have hws : w.heap.size < w2.heap.size := by have := hgr.size; rw [World.size_alloc] at this; omega
  have hc5 : ∀ c ∈ cs, c.1 ≠ cg ∧ c.1 < w.heap.size ∧ B ≤ c.1 := fun c hc => by
    obtain ⟨j, hj⟩ := List.getElem?_of_mem hc
    obtain ⟨q1, _, q3⟩ := I.chunks.at j c hj
    refine ⟨fun e => ?_, q3.lt, q1⟩
    obtain ⟨cur', hq, _⟩ := q3
    rw [e, hc81] at hq
    cases hq
  have i1 := I.off
  have i3 := I.nx0
  have i4 := I.nx1
  have i5 := I.nx2
  have i6 := I.lcap
  have i7 := I.sz
  refine ⟨by rw [hcs]; omega, by rw [hh]; exact heap_alloc_new w2 _, by omega, by omega, by omega, hm, fun j hj => by omega, by omega, ?_, by omega, by rw [hcs]; omega, by omega, ?_, ?_, ?_, ?_, by rw [hh, World.size_alloc]; omega, I.rbB⟩
  · intro c hc
    rcases List.mem_append.1 hc with hc | hc
    · have := (hc5 c hc).2.1; omega
    · obtain rfl := List.mem_singleton.1 hc
      have := lt_of_block I.hg
      show g ≠ _
      omega
  · have e : (cs ++ [(g, len, cap)]).length = cs.length + 1 := by simp
    rw [e, List.map_append, List.map_cons, List.map_nil]
    obtain ⟨_, cur2, hc2⟩ := owns_block hown
    exact owns_of_block hown (by rw [hh, Below.heap_alloc _ _ _ (lt_of_block hc2)])
  · refine (I.chunks.of_blocks fun c hc => old c.1 (hc5 c hc).2.1 (hc5 c hc).1).snoc I.gB hlen ?_
    rw [Nat.zero_add]
    refine ⟨cur, (old g (lt_of_block I.hg) hg5).trans I.hg, by have := I.capc; omega, I.bytes⟩
  · rw [hcs, old rb (by have := I.rbB; omega) hrb]; exact I.rd
  · exact ⟨h1.trans (hgr.os.trans I.st.os), h2.trans (hgr.tape.trans I.st.tape), h3.trans (hgr.output.trans I.st.output), by rw [hh, World.size_alloc]; have := I.st.size; omega, fun j q1 q2 => (old j (by omega) (by omega)).trans (I.st.block j q1 q2)⟩

theorem info81 : ∃ i, Tryd.prog.info? 81 = some i ∧ i.zero = some (.slice none 0 0) ∧ i.size = 1 ∧ i.bytes = 24 := by
  have h : (Tryd.prog.info? 81).map (fun i => (i.zero, i.size, i.bytes)) = some (some (.slice none 0 0), 1, 24) := by kernel_rfl
  cases hi : Tryd.prog.info? 81 with
  | none => rw [hi] at h; cases h
  | some i => rw [hi] at h; simp at h; exact ⟨i, rfl, h.1, h.2.1, h.2.2⟩

theorem chunks_few {bs : ByteArray} {B : Nat} {w : World} : ∀ {cs : List (Nat × Nat × Nat)} {off : Nat}, ChunksAt bs B w cs off → cs.length ≤ chunkSum cs
  | [], _, _ => Nat.le_refl _
  | c :: r, _, h => by
    have h1 := chunks_few h.2.2.2
    have h2 := h.2.1
    have e : chunkSum (c :: r) = c.2.1 + chunkSum r := by simp [chunkSum]
    rw [e, List.length_cons]
    omega

set_option maxRecDepth 100000 in
theorem mk512 (w : World) : (Instr.makeSlice 81 (.int .i64 0) (.int .i64 512)).run Tryd.prog w = .ok (.slice (some ⟨w.heap.size, 0, none⟩) 0 512) (w.alloc (.cells (Array.replicate 512 (.int .u8 0)) 5)) := by kernel_rfl
theorem mk4 (w : World) : (Instr.makeSlice 114 (.int .i64 0) (.int .i64 4)).run Tryd.prog w = .ok (.slice (some ⟨w.heap.size, 0, none⟩) 0 4) (w.alloc (.cells (Array.replicate 4 (.slice none 0 0)) 81)) := by kernel_rfl

theorem bytesAt_of_own {w : World} {B : Nat} {v : Value} {bs : ByteArray} (h : w.ownsRow B 5 1 v bs.size (bv bs 0 bs.size)) (h0 : 0 < bs.size) :
    ∃ bb cap, v = .slice (some ⟨bb, 0, none⟩) bs.size cap ∧ bs.size ≤ cap ∧ B ≤ bb ∧ BytesAt bb bs w := by
  rcases h.2 with ⟨_, hn⟩ | ⟨g, cap, cur, rfl, hB, hg, hn, _, hs, ht⟩
  · omega
  refine ⟨g, cap, rfl, hn, hB, cur, (0, 0), hg, fun j hj => ?_⟩
  have e := congrArg (·[j]?) ht
  simp only [Nat.mul_one] at e
  rw [List.getElem?_take_of_lt hj, bv_get bs 0 bs.size j hj, Nat.zero_add] at e
  simpa using e
theorem below_grown {B : Nat} {a w w' : World} {v : Value} {e : TypeId} {size n : Nat} {xs : List Value} (h : Below B a w) (ho : w.ownsRow B e size v n xs) (hg : w.grownBy w' v.ownBlock) (hB : B ≤ w.heap.size) : Below B a w' :=
  h.trans ⟨hg.os, hg.tape, hg.output, hg.size, fun k hk => hg.block k (by omega) (fun e' => by have := (ho.lt k e'.symm).1; omega)⟩
theorem Stays.below {B rb : Nat} {a w w' : World} (h : Stays B rb a w) (g : Below w.heap.size w w') (hB : B ≤ w.heap.size) : Stays B rb a w' :=
  ⟨g.os.trans h.os, g.tape.trans h.tape, g.output.trans h.output, Nat.le_trans h.size g.size, fun k hk hr => (g.block k (by omega)).trans (h.block k hk hr)⟩

theorem infoU8 : ∃ i, Tryd.prog.info? 5 = some i ∧ i.zero = some (.int .u8 0) ∧ i.size = 1 ∧ i.bytes = 1 := by
  have h : (Tryd.prog.info? 5).map (fun i => (i.zero, i.size, i.bytes)) = some (some (.int .u8 0), 1, 1) := by kernel_rfl
  cases hi : Tryd.prog.info? 5 with
  | none => rw [hi] at h; cases h
  | some i => rw [hi] at h; simp at h; exact ⟨i, rfl, h.1, h.2.1, h.2.2⟩

/-- 'append([]byte(nil), make([]byte, n)...)'. -/
theorem zeros_made (W : World) (n : Nat) (z : Int) (hz : z = n) (h0 : 0 < n) (hn : n ≤ 281474976710656) : ∃ (CAP : Nat) (Z : Array Value), Z.size = CAP ∧ n ≤ CAP ∧ CAP ≤ maxLen ∧
    (Builtin.append_ #[81, 3] 81 #[.slice none 0 0, .int .i64 z]).run Tryd.prog W = .ok (.slice (some ⟨W.heap.size, 0, none⟩) n CAP) (W.drew.alloc (.cells Z 5)) := by
  obtain ⟨i, hi, hz0, hs, hb⟩ := infoU8
  subst hz
  have hle := grownCap_ge W n 0 5
  refine ⟨grownCap W n 0 5, _, ?_, hle, grownCap_le_maxLen W n 0 5 (by unfold maxLen; omega), Lib.run_append_nil_zeros W 81 3 81 5 i (.int .u8 0) .i64 .i64 Tryd.underlying81 Tryd.underlying3 hi hz0 n h0 (by omega) (by omega) (by rw [hb]; omega)⟩
  have hc : ∀ m, (Builtin.zeroCells (Value.int .u8 0).cells m).size = m := fun m => by simp [Builtin.zeroCells, Value.cells]
  rw [Array.size_append, hc, hc]
  omega

end Go.Proofs.YtplljfbbipeakaaDoor
