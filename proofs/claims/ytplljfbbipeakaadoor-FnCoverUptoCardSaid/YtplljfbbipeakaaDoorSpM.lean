/- spec.More, walked. -/
import Derived.Test.YtplljfbbipeakaaDoorWords
namespace Go.Proofs.YtplljfbbipeakaaDoor
open Go Go.RowKit Go.Maps Go.WideMaps Go.WideElems

def moreL : List (List UInt8) := [[105, 110], [101, 118, 101, 114, 121], [99, 111, 110, 116, 97, 105, 110, 115], [105, 102]]
def moreObj : Obj := .cells #[.string ⟨#[105, 110]⟩, .string ⟨#[101, 118, 101, 114, 121]⟩, .string ⟨#[99, 111, 110, 116, 97, 105, 110, 115]⟩, .string ⟨#[105, 102]⟩] 9

set_option maxHeartbeats 1000000 in
theorem more_walk (w : World) :
    Calls Tryd.prog 25 #[] w fun e w' => e = .returned (.slice (some ⟨w.heap.size, 0, none⟩) 4 4) ∧ w.alloc moreObj = w' := by
  go_enter Tryd.func25, Tryd.ntmps25
  go_wp2
  go_ret
  exact ⟨rfl, rfl⟩

theorem more_cell (w : World) (m : Nat) (h : m < 4) : (w.alloc moreObj).cell? ⟨w.heap.size, m, none⟩ = some (.string ⟨(moreL.getD m []).toArray⟩) := by
  have hb : (w.alloc moreObj).heap[w.heap.size]? = some moreObj := heap_alloc_new w _
  unfold World.cell?
  rw [hb]
  unfold moreObj
  have : m = 0 ∨ m = 1 ∨ m = 2 ∨ m = 3 := by omega
  rcases this with rfl | rfl | rfl | rfl <;> rfl

end Go.Proofs.YtplljfbbipeakaaDoor
