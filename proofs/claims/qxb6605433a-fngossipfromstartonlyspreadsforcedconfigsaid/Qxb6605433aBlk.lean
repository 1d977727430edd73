/- Whole blocks of cells in a walk: what lies in a block, behind a store, a draw, a new block. -/
import Derived.Test.Qxb6605433aRows
import Derived.WalkKit
import Derived.WalkSpells
import Derived.WalkLawsBesides
import Derived.Deep.MidRow
import Derived.Deep.CutRange
import Derived.Deep.CutBlock
import Derived.Deep.QuietTactic
import Derived.BigQuiet
import Derived.Laws.CopyOwn
namespace Go.Proofs.Qxb6605433a
open Go.RowKit

/-- A block of cells, whole: number g, cells cs, laid at type t, no mark. -/
def Blk (w : World) (g : Nat) (cs : Array Value) (t : TypeId) : Prop := w.heap[g]? = some (.cells cs t (0, 0))
theorem Blk.cell {w : World} {g : Nat} {cs : Array Value} {t : TypeId} (h : Blk w g cs t) (j : Nat) : w.cell? ⟨g, j, none⟩ = cs[j]? := cell_of_row w g j cs t _ h
theorem Blk.frozen {w : World} {g : Nat} {cs : Array Value} {t : TypeId} (h : Blk w g cs t) (j : Nat) : w.frozen? ⟨g, j, none⟩ = false := frozen_of_row w g j cs t h
theorem Blk.set {w : World} {g : Nat} {cs : Array Value} {t : TypeId} (h : Blk w g cs t) (i : Nat) (v : Value) : Blk (w.setCell ⟨g, i, none⟩ v) g (cs.setIfInBounds i v) t := heap_setCell_same w g i cs t v h
theorem Blk.far {w : World} {g : Nat} {cs : Array Value} {t : TypeId} (h : Blk w g cs t) (a : Addr) (v : Value) (hn : g ≠ a.block) : Blk (w.setCell a v) g cs t := by unfold Blk; rw [heap_setCell_other w a g v hn]; exact h
theorem Blk.drew {w : World} {g : Nat} {cs : Array Value} {t : TypeId} (h : Blk w g cs t) : Blk w.drew g cs t := h
theorem Blk.new (w : World) (cs : Array Value) (t : TypeId) : Blk (w.alloc (.cells cs t)) w.heap.size cs t := heap_alloc_new w _
theorem Blk.lt {w : World} {g : Nat} {cs : Array Value} {t : TypeId} (h : Blk w g cs t) : g < w.heap.size := (Array.getElem?_eq_some_iff.1 h).1
theorem Blk.old {w : World} {g : Nat} {cs : Array Value} {t : TypeId} (h : Blk w g cs t) (o : Obj) : Blk (w.alloc o) g cs t := by
  have hl := h.lt
  show (w.alloc o).heap[g]? = _
  rw [Below.heap_alloc w o g hl]; exact h
theorem Blk.newAt (w : World) (cs : Array Value) (t : TypeId) (g : Nat) (hg : g = w.heap.size) : Blk (w.alloc (.cells cs t)) g cs t := hg ▸ Blk.new w cs t
theorem Blk.eq {w : World} {g : Nat} {cs cs' : Array Value} {t : TypeId} (h : Blk w g cs t) (e : cs = cs') : Blk w g cs' t := e ▸ h
theorem Blk.row {w : World} {g : Nat} {cs : Array Value} {t : TypeId} (h : Blk w g cs t) (cs' : Array Value) : Blk (w.setRow g cs') g cs' t := setRow_heap w g cs cs' t _ h
theorem Blk.rowFar {w : World} {g : Nat} {cs : Array Value} {t : TypeId} (h : Blk w g cs t) (g' : Nat) (cs' : Array Value) (hn : g ≠ g') : Blk (w.setRow g' cs') g cs t := by
  unfold Blk; rw [setRow_other w g' g cs' hn]; exact h
theorem Blk.below {w w' : World} {B g : Nat} {cs : Array Value} {t : TypeId} (h : Blk w g cs t) (hb : Below B w w') (hg : g < B) : Blk w' g cs t := by
  unfold Blk; rw [hb.block g hg]; exact h

end Go.Proofs.Qxb6605433a
