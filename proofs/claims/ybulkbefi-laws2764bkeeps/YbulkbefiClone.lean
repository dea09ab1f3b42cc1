/- slices.Clone. -/
import Derived.Test.YbulkbefiPrune
namespace Go.Proofs.Ybulkbefi
open Go.RowKit
set_option linter.unusedSimpArgs false
set_option linter.unusedVariables false

/-- What Clone hands back. -/
def ClonePost (w : World) (a : Option Addr) (n : Nat) (tg kk : Nat → Int) (e : Ending) (w' : World) : Prop :=
  ∃ a' cap', e = .returned (.slice a' n cap') ∧ n ≤ cap' ∧ w.grownBy w' none ∧ RowE w' a' n tg kk ∧ (∀ B, a' = some ⟨B, 0, none⟩ → w.heap.size ≤ B ∧ B < w'.heap.size) ∧ (0 < n → ∃ B, a' = some ⟨B, 0, none⟩) ∧ (n = 0 → a' = none ∧ cap' = 0)

def cellsV (tg kk : Nat → Int) (n : Nat) : List Value := (List.range (n * 4)).map (cellV tg kk)

theorem cellsV_get (tg kk : Nat → Int) (n t : Nat) (h : t < n * 4) : (cellsV tg kk n)[t]? = some (cellV tg kk t) := by
  simp [cellsV, h]

theorem cellsV_snoc (tg kk : Nat → Int) (n : Nat) : cellsV tg kk (n + 1) = cellsV tg kk n ++ [.int .u64 (tg n), .int .i64 (kk n), .string ⟨#[]⟩, .bool false] := by
  unfold cellsV
  rw [show (n + 1) * 4 = n * 4 + 1 + 1 + 1 + 1 from by omega, List.range_succ, List.range_succ, List.range_succ, List.range_succ]
  simp only [List.map_append, List.map_cons, List.map_nil, List.append_assoc, List.cons_append, List.nil_append]
  rw [cellV_0, show n * 4 + 1 = n * 4 + 1 from rfl, cellV_1, show n * 4 + 1 + 1 = n * 4 + 2 from rfl, cellV_2, show n * 4 + 2 + 1 = n * 4 + 3 from rfl, cellV_3]

theorem rowE_of_own {w : World} {base g n cap : Nat} {tg kk : Nat → Int} (h : w.ownsRow base 31 4 (.slice (some ⟨g, 0, none⟩) n cap) n (cellsV tg kk n)) : RowE w (some ⟨g, 0, none⟩) n tg kk := fun t ht =>
  ⟨g, rfl, by rw [h.cellAt t ht, cellsV_get tg kk n t ht], h.frozenAt t⟩

theorem clone_nil (w : World) (tg kk : Nat → Int) : Calls Yba.prog 6 #[.slice none 0 0] w (ClonePost w none 0 tg kk) := by
  have q26 : ∀ (w : World) (a : Option Addr) (n c n' c' : Nat), (binOp .eql 26 (.slice a n c) (.slice none n' c')).run Yba.prog w = .ok (.bool a.isNone) w := fun w a n c n' c' => Lib.run_eql_slice_nil w 26 31 a n c n' c' Yba.underlying26
  go_enter Yba.func6, Yba.ntmps6
  go_wp2_with fail
  go_ret
  exact ⟨none, 0, rfl, Nat.le_refl _, grown_aft w ⟨[], 0⟩ none, fun t ht => absurd ht (by omega), fun B h => by simp at h, fun h => absurd h (by omega), fun _ => ⟨rfl, rfl⟩⟩

theorem clone_some (w : World) (B n cap : Nat) (tg kk : Nat → Int) (hn0 : 0 < n) (hn : n ≤ 1024) (hr : RowE w (some ⟨B, 0, none⟩) n tg kk) : Calls Yba.prog 6 #[.slice (some ⟨B, 0, none⟩) n cap] w (ClonePost w (some ⟨B, 0, none⟩) n tg kk) := by
  have q26 : ∀ (w : World) (a : Option Addr) (n c n' c' : Nat), (binOp .eql 26 (.slice a n c) (.slice none n' c')).run Yba.prog w = .ok (.bool a.isNone) w := fun w a n c n' c' => Lib.run_eql_slice_nil w 26 31 a n c n' c' Yba.underlying26
  obtain ⟨i0, hi0, hz0, hz1, hz2⟩ := info_parts Yba.i31
  have hsz : (w.alloc (.cells #[] 31)).heap.size = w.heap.size + 1 := by simp only [World.alloc, Array.size_push]
  have hown : (w.alloc (.cells #[] 31)).ownsRow w.heap.size 31 4 (.slice (some ⟨w.heap.size, 0, none⟩) 0 0) 0 [] :=
    ⟨rfl, .inr ⟨w.heap.size, 0, #[], rfl, Nat.le_refl _, (MapKept.heap_alloc w _).1, Nat.le_refl _, by unfold maxLen; omega, by simp, by simp⟩⟩
  have hnews : ∀ j u, (cellsV tg kk n)[j]? = some u → (w.alloc (.cells #[] 31)).cell? ((⟨B, 0, none⟩ : Addr).add j) = some u := fun j u hu => by
    have hj : j < n * 4 := by
      have := (List.getElem?_eq_some_iff.1 hu).1
      simpa [cellsV] using this
    rw [cellsV_get tg kk n j hj] at hu
    rw [Addr.add_lit, Nat.zero_add]
    obtain ⟨B2, e2, c2, _⟩ := hr j hj
    obtain rfl : B = B2 := by simpa using e2
    rw [World.cell?_alloc_lt w _ _ (World.block_lt_of_cell? _ _ c2), c2]
    exact hu
  have hone : ∀ u ∈ cellsV tg kk n, u.oneCell' = true := fun u hu => by
    unfold cellsV at hu
    obtain ⟨x, _, rfl⟩ := List.mem_map.1 hu
    exact cellV_one tg kk x
  have hlen : (cellsV tg kk n).length = n * 4 := by simp [cellsV]
  have H1 : Hid _ := hown
  have H2 : Hid _ := hnews
  have H3 : Hid _ := hone
  have H4 : Hid _ := hlen
  have H5 : Hid _ := hsz
  clear hown hnews hone hlen hsz hr
  go_enter Yba.func6, Yba.ntmps6
  go_wp2_with (at_builtin; refine wpList_append_lies _ rfl (.tmp 5) (.tmp 6) 26 rfl w.heap.size 31 i0 _ 4 40 Yba.underlying26 hi0 hz0 hz1 hz2 rfl (by decide) _ 0 [] rfl H1.out ⟨B, 0, none⟩ n cap (cellsV tg kk n) rfl H4.out H2.out H3.out hn0 (by unfold maxLen; omega) (by omega) (by have := H5.out; omega) _ rfl ?_; intro k cap2 w2 h1 h2 h3 h4)
  have h1' : w2.ownsRow w.heap.size 31 4 (.slice (some ⟨k, 0, none⟩) n cap2) n (cellsV tg kk n) := by simpa using h1
  have hk : w.heap.size ≤ k ∧ n ≤ cap2 := by
    rcases h1'.2 with ⟨e, _⟩ | ⟨g, c, cur, e, hb, _, hc, _⟩
    · simp at e
    · simp at e; omega
  have hg : w.grownBy w2 none := grown_of_above (grown_aft w ⟨[.cells #[] 31], 0⟩ none) h2 (fun j hj => by have hj' : some w.heap.size = some j := hj; simp at hj'; omega)
  have Hp : Hid (ClonePost w (some ⟨B, 0, none⟩) n tg kk (.returned (.slice (some ⟨k, 0, none⟩) n cap2)) w2) :=
    ⟨_, _, rfl, hk.2, hg, rowE_of_own h1', fun B' e => by simp at e; omega, fun _ => ⟨k, rfl⟩, fun h => absurd h (by omega)⟩
  go_ret
  exact Hp.out
end Go.Proofs.Ybulkbefi
