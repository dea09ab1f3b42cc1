/- Worlds; cmp.isNaN, cmp.Compare, the closure of before. -/
import Derived.Test.YbulkbefiAft
import Derived.Deep.AppendLies
namespace Go.Proofs.Ybulkbefi
open Go.RowKit
set_option linter.unusedSimpArgs false
set_option linter.unusedVariables false

theorem grown_trans {a b c : World} {row : Option Nat} (h : a.grownBy b row) (k : b.grownBy c row) : a.grownBy c row :=
  ⟨k.os.trans h.os, k.tape.trans h.tape, k.output.trans h.output, Nat.le_trans h.size k.size, fun i hi hr => (k.block i (Nat.lt_of_lt_of_le hi h.size) hr).trans (h.block i hi hr)⟩

theorem grown_aft (w : World) (x : Aft) (row : Option Nat) : w.grownBy (aft w x) row := by
  have h := aft_below w x
  exact ⟨h.os, h.tape, h.output, h.size, fun k hk _ => h.block k hk⟩

theorem grown_setCell (w : World) (a : Addr) (u : Value) : w.grownBy (w.setCell a u) (some a.block) :=
  ⟨rfl, rfl, rfl, by simp [World.setCell], fun k _ hne => Below.heap_setCell w a u k (by simpa using hne)⟩

theorem grown_of_above {a b c : World} {row row' : Option Nat} (h : a.grownBy b row) (k : b.grownBy c row') (hr : ∀ j, row' = some j → a.heap.size ≤ j) : a.grownBy c row :=
  ⟨k.os.trans h.os, k.tape.trans h.tape, k.output.trans h.output, Nat.le_trans h.size k.size, fun i hi hne =>
    (k.block i (Nat.lt_of_lt_of_le hi h.size) (fun e => by have := hr i e.symm; omega)).trans (h.block i hi hne)⟩

theorem cell_same {w w' : World} {k : Nat} (h : w'.heap[k]? = w.heap[k]?) (o : Nat) : w'.cell? ⟨k, o, none⟩ = w.cell? ⟨k, o, none⟩ := World.cell?_of_block (a := ⟨k, o, none⟩) h
theorem frozen_same {w w' : World} {k : Nat} (h : w'.heap[k]? = w.heap[k]?) (o : Nat) : w'.frozen? ⟨k, o, none⟩ = w.frozen? ⟨k, o, none⟩ := World.frozen?_of_block (a := ⟨k, o, none⟩) h

theorem allocs_drewN : ∀ (l : List Obj) (w : World) (n : Nat), l.foldl World.alloc (w.drewN n) = (l.foldl World.alloc w).drewN n
  | [], _, _ => rfl
  | o :: l, w, n => allocs_drewN l (w.alloc o) n

theorem aft_aft (w : World) (x y : Aft) : aft (aft w x) y = aft w ⟨x.xs ++ y.xs, x.n + y.n⟩ := by
  unfold aft
  rw [allocs_drewN, List.foldl_append, World.drewN_drewN]

theorem isNaN_any (a : Int) (w : World) : Calls Yba.prog 14 #[.int .u64 a] w fun e w' => e = .returned (.bool false) ∧ w' = w := by
  go_enter Yba.func14, Yba.ntmps14
  go_wp2
  go_ret
  exact ⟨rfl, rfl⟩

def cmpI (a b : Int) : Int := if a < b then -1 else if b < a then 1 else 0

theorem compare_any (a b : Int) (w : World) : Calls Yba.prog 13 #[.int .u64 a, .int .u64 b] w fun e w' => e = .returned (.int .i64 (cmpI a b)) ∧ w' = w := by
  have Hn : Hid _ := fun a => isNaN_any a w
  have hc : (a < b ∧ cmpI a b = -1) ∨ (¬ a < b ∧ b < a ∧ cmpI a b = 1) ∨ (¬ a < b ∧ ¬ b < a ∧ cmpI a b = 0) := by
    unfold cmpI
    by_cases h1 : a < b
    · exact .inl ⟨h1, if_pos h1⟩
    · by_cases h2 : b < a
      · exact .inr (.inl ⟨h1, h2, by rw [if_neg h1, if_pos h2]⟩)
      · exact .inr (.inr ⟨h1, h2, by rw [if_neg h1, if_neg h2]⟩)
  generalize cmpI a b = c at *
  rcases hc with ⟨h1, rfl⟩ | ⟨h1, h2, rfl⟩ | ⟨h1, h2, rfl⟩
  all_goals
    go_enter Yba.func13, Yba.ntmps13
    go_wp2_with fail
    refine Calls.mono (Hn.out _) ?_
    rintro e w' ⟨rfl, rfl⟩
    go_wp2_with fail
    refine Calls.mono (Hn.out _) ?_
    rintro e w' ⟨rfl, rfl⟩
    go_wp2_with fail
    go_ret
    exact ⟨rfl, rfl⟩

def entV (t i : Int) : Value := .agg #[.int .u64 t, .int .i64 i, .string ⟨#[]⟩, .bool false]

theorem clos_any (t i f : Int) (w : World) : Calls Yba.prog 12 #[entV t i, .int .u64 f] w fun e w' => e = .returned (.int .i64 (cmpI t f)) ∧ ∃ x, w' = aft w x := by
  have Hc : Hid _ := fun W => compare_any t f W
  generalize cmpI t f = c at *
  unfold entV
  go_enter Yba.func12, Yba.ntmps12
  go_wp2_with fail
  refine Calls.mono (Hc.out _) ?_
  rintro e w' ⟨rfl, rfl⟩
  go_wp2_with fail
  go_ret
  exact ⟨rfl, ⟨[_], 0⟩, rfl⟩
end Go.Proofs.Ybulkbefi
