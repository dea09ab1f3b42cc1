/- Worlds. -/
import Derived.Test.YbulkbeboAft
import Derived.Deep.AppendLies
namespace Go.Proofs.Ybulkbebo
open Go.RowKit
set_option linter.unusedSimpArgs false
set_option linter.unusedVariables false

theorem grown_trans {a b c : World} {row : Option Nat} (h : a.grownBy b row) (k : b.grownBy c row) : a.grownBy c row :=
  ⟨k.os.trans h.os, k.tape.trans h.tape, k.output.trans h.output, Nat.le_trans h.size k.size, fun i hi hr => (k.block i (Nat.lt_of_lt_of_le hi h.size) hr).trans (h.block i hi hr)⟩

theorem grown_aft (w : World) (x : Aft) (row : Option Nat) : w.grownBy (aft w x) row := by
  have h := aft_below w x
  exact ⟨h.os, h.tape, h.output, h.size, fun k hk _ => h.block k hk⟩

theorem grown_setCell (w : World) (a : Addr) (u : Value) : w.grownBy (w.setCell a u) (some a.block) :=
  ⟨rfl, rfl, rfl, by simp [World.setCell], fun k _ hne => Below.heap_setCell w a u k (by simpa using hne)⟩

theorem grown_of_above {a b c : World} {row row' : Option Nat} (h : a.grownBy b row) (k : b.grownBy c row') (hr : ∀ j, row' = some j → a.heap.size ≤ j) : a.grownBy c row :=
  ⟨k.os.trans h.os, k.tape.trans h.tape, k.output.trans h.output, Nat.le_trans h.size k.size, fun i hi hne =>
    (k.block i (Nat.lt_of_lt_of_le hi h.size) (fun e => by have := hr i e.symm; omega)).trans (h.block i hi hne)⟩

theorem cell_same {w w' : World} {k : Nat} (h : w'.heap[k]? = w.heap[k]?) (o : Nat) : w'.cell? ⟨k, o, none⟩ = w.cell? ⟨k, o, none⟩ := World.cell?_of_block (a := ⟨k, o, none⟩) h
theorem frozen_same {w w' : World} {k : Nat} (h : w'.heap[k]? = w.heap[k]?) (o : Nat) : w'.frozen? ⟨k, o, none⟩ = w.frozen? ⟨k, o, none⟩ := World.frozen?_of_block (a := ⟨k, o, none⟩) h

theorem allocs_drewN : ∀ (l : List Obj) (w : World) (n : Nat), l.foldl World.alloc (w.drewN n) = (l.foldl World.alloc w).drewN n
  | [], _, _ => rfl
  | o :: l, w, n => allocs_drewN l (w.alloc o) n

theorem aft_aft (w : World) (x y : Aft) : aft (aft w x) y = aft w ⟨x.xs ++ y.xs, x.n + y.n⟩ := by
  unfold aft
  rw [allocs_drewN, List.foldl_append, World.drewN_drewN]

theorem own_aft {w : World} {base : Nat} {v : Value} {n size : Nat} {e : TypeId} {xs : List Value} (h : w.ownsRow base e size v n xs) (x : Aft) : (aft w x).ownsRow base e size v n xs := by
  have hg := grown_aft w x none
  refine h.kept hg ?_
  cases hv : v.ownBlock
  · exact .inl rfl
  · right; simp

end Go.Proofs.Ybulkbebo
