/- A region that draws its order, whose operations only read, and whose callees at most lay new blocks: one walk in the order of the text. 'aft w x': w behind the new blocks x.xs and x.n draws. -/
import Derived.Test.YbulkbeboRows
import Derived.WalkKit
import Derived.WalkSpells
import Derived.WalkLawsBesides
import Derived.BigQuiet
import Derived.Deep.LoopGhost
namespace Go.Proofs.Ybulkbebo
open Go.RowKit

structure Aft where
  xs : List Obj
  n : Nat

def aft (w : World) (x : Aft) : World := (x.xs.foldl World.alloc w).drewN x.n

theorem aft_alloc (w : World) (x : Aft) (o : Obj) : (aft w x).alloc o = aft w ⟨x.xs ++ [o], x.n⟩ := by
  unfold aft
  rw [List.foldl_append]
  rfl

theorem aft_drew (w : World) (x : Aft) : (aft w x).drew = aft w ⟨x.xs, x.n + 1⟩ := rfl

theorem aft_refl (w : World) : aft w ⟨[], 0⟩ = w := rfl

theorem allocs_cell {a : Addr} {v : Value} : ∀ (xs : List Obj) (w : World), w.cell? a = some v → (xs.foldl World.alloc w).cell? a = some v
  | [], _, h => h
  | x :: xs, w, h => allocs_cell xs (w.alloc x) ((World.cell?_alloc_lt w x a (World.block_lt_of_cell? w a h)).trans h)

theorem aft_cell {w : World} {a : Addr} {v : Value} (h : w.cell? a = some v) (x : Aft) : (aft w x).cell? a = some v := by
  unfold aft
  rw [World.cell?_drewN]
  exact allocs_cell x.xs w h

theorem allocs_below : ∀ (xs : List Obj) (w : World), Below w.heap.size w (xs.foldl World.alloc w)
  | [], w => Below.refl _ w
  | x :: xs, w => by
    have h1 : Below w.heap.size w (w.alloc x) := (Below.refl _ w).alloc (Nat.le_refl _) x
    exact h1.trans ((allocs_below xs (w.alloc x)).mono h1.size)

theorem aft_below (w : World) (x : Aft) : Below w.heap.size w (aft w x) := by
  have h := allocs_below x.xs w
  exact ⟨h.os, h.tape, h.output, h.size, h.block⟩

theorem wp_region_aft {P : Program} {id : Nat} {Q : Exit → Act → World → Prop} {a : Act} {w : World} {l : List Oper} (hm : P.follows .mixedOrders = true) (hB : Region.lexB .any l.toArray = true)
    (h : wpQuiet P l.toArray (fun w' => ∃ x, w' = aft w x) (fun a' => ∀ w', (∃ x, w' = aft w x) → Q .normal a' w') l a) : (Code.region id l.toArray true).wp P Q a w :=
  wp_region_quiet (C := fun w' => ∃ x, w' = aft w x) hm hB ⟨⟨[], 1⟩, rfl⟩ (by simpa using h)

end Go.Proofs.Ybulkbebo
