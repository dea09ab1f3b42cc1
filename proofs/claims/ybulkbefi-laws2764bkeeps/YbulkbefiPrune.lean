/- prune. -/
import Derived.Test.YbulkbefiDel
namespace Go.Proofs.Ybulkbefi
open Go.RowKit
set_option linter.unusedSimpArgs false
set_option linter.unusedVariables false

def cellV (tg kk : Nat → Int) (t : Nat) : Value := if t % 4 = 0 then .int .u64 (tg (t / 4)) else if t % 4 = 1 then .int .i64 (kk (t / 4)) else if t % 4 = 2 then .string ⟨#[]⟩ else .bool false

theorem cellV_one (tg kk : Nat → Int) (t : Nat) : (cellV tg kk t).oneCell' = true := by
  unfold cellV
  repeat' split
  all_goals rfl

/-- The row: n entries; the tags tg, the numbers kk. -/
def RowE (w : World) (a : Option Addr) (n : Nat) (tg kk : Nat → Int) : Prop :=
  ∀ t, t < n * 4 → ∃ B, a = some ⟨B, 0, none⟩ ∧ w.cell? ⟨B, t, none⟩ = some (cellV tg kk t) ∧ w.frozen? ⟨B, t, none⟩ = false

theorem cellV_0 (tg kk : Nat → Int) (i : Nat) : cellV tg kk (i * 4) = .int .u64 (tg i) := by
  unfold cellV
  rw [if_pos (by omega), show i * 4 / 4 = i from by omega]
theorem cellV_1 (tg kk : Nat → Int) (i : Nat) : cellV tg kk (i * 4 + 1) = .int .i64 (kk i) := by
  unfold cellV
  rw [if_neg (by omega), if_pos (by omega), show (i * 4 + 1) / 4 = i from by omega]
theorem cellV_2 (tg kk : Nat → Int) (i : Nat) : cellV tg kk (i * 4 + 2) = .string ⟨#[]⟩ := by
  unfold cellV
  rw [if_neg (by omega), if_neg (by omega), if_pos (by omega)]
theorem cellV_3 (tg kk : Nat → Int) (i : Nat) : cellV tg kk (i * 4 + 3) = .bool false := by
  unfold cellV
  rw [if_neg (by omega), if_neg (by omega), if_neg (by omega)]

theorem RowE.at {w : World} {a : Option Addr} {n : Nat} {tg kk : Nat → Int} (h : RowE w a n tg kk) (i : Nat) (hi : i < n) : ∃ B, a = some ⟨B, 0, none⟩ ∧ EAt w B 0 i (tg i) (kk i) := by
  obtain ⟨B, e, c0, _⟩ := h (i * 4) (by omega)
  obtain ⟨B1, e1, c1, _⟩ := h (i * 4 + 1) (by omega)
  obtain ⟨B2, e2, c2, _⟩ := h (i * 4 + 2) (by omega)
  obtain ⟨B3, e3, c3, _⟩ := h (i * 4 + 3) (by omega)
  subst e
  obtain rfl : B = B1 := by simpa using e1
  obtain rfl : B = B2 := by simpa using e2
  obtain rfl : B = B3 := by simpa using e3
  rw [cellV_0] at c0
  rw [cellV_1] at c1
  rw [cellV_2] at c2
  rw [cellV_3] at c3
  refine ⟨B, rfl, ?_, ?_, ?_, ?_⟩ <;> simp only [Nat.zero_add] <;> assumption

theorem RowE.keep {w w' : World} {a : Option Addr} {n : Nat} {tg kk : Nat → Int} (h : RowE w a n tg kk) (hk : ∀ B, a = some ⟨B, 0, none⟩ → w'.heap[B]? = w.heap[B]?) : RowE w' a n tg kk := fun t ht => by
  obtain ⟨B, e, c, f⟩ := h t ht
  exact ⟨B, e, (cell_same (hk B e) t).trans c, (frozen_same (hk B e) t).trans f⟩

theorem Known.keep {w w' : World} {G : Nat} {a : Option Addr} {n cap : Nat} (h : Known w G a n cap) (hk : w'.heap[G]? = w.heap[G]?) : Known w' G a n cap :=
  ⟨(cell_same hk 0).trans h.c0, (cell_same hk 3).trans h.c3, (cell_same hk 4).trans h.c4, (frozen_same hk 3).trans h.f3⟩

/-- What prune leaves: the first j entries are gone. -/
structure PruneAt (w w' : World) (G : Nat) (a : Option Addr) (n cap : Nat) (tg kk : Nat → Int) (j : Nat) : Prop where
  kn : Known w' G a (n - j) cap
  row : ∀ t, t < (n - j) * 4 → ∃ B, a = some ⟨B, 0, none⟩ ∧ w'.cell? ⟨B, t, none⟩ = some (cellV tg kk (j * 4 + t))
  gr : ∀ w0 : World, w0.grownBy w none → w0.heap.size ≤ G → (∀ B, a = some ⟨B, 0, none⟩ → w0.heap.size ≤ B) → w0.grownBy w' none
  kp : ∀ k, k < w.heap.size → k ≠ G → (∀ B, a = some ⟨B, 0, none⟩ → k ≠ B) → w'.heap[k]? = w.heap[k]?

def PrunePost (w : World) (G : Nat) (a : Option Addr) (n cap : Nat) (tg kk : Nat → Int) (f : Int) (e : Ending) (w' : World) : Prop :=
  e = .returned (.tuple #[]) ∧ ∃ p, p ≤ n ∧ (∀ j, j < p → tg j < f) ∧ (∀ j, p ≤ j → j < n → f ≤ tg j) ∧ PruneAt w w' G a n cap tg kk (p - 1)

set_option maxRecDepth 100000 in
set_option maxHeartbeats 2000000 in
theorem prune_any (w : World) (G : Nat) (a : Option Addr) (n cap : Nat) (tg kk : Nat → Int) (f : Int) (hk : Known w G a n cap) (hn : n ≤ 1024) (hnc : n ≤ cap) (hcap : cap ≤ 9223372036854775807) (hs : Sorted n tg) (hrow : RowE w a n tg kk)
    (hne : ∀ B, a = some ⟨B, 0, none⟩ → B ≠ G) :
    Calls Yba.prog 7 #[.pointer (some ⟨G, 0, none⟩), .int .u64 f] w (PrunePost w G a n cap tg kk f) := by
  have Hb : Hid _ := before_any w G a n cap tg kk f hk hn hs hrow.at
  have Hrow : Hid (RowE w a n tg kk) := hrow
  have Hne : Hid _ := hne
  clear hs hrow hne
  have gl : G < w.heap.size := World.block_lt_of_cell? _ _ hk.c0
  go_enter Yba.func7, Yba.ntmps7
  go_wp2_with fail
  refine Calls.mono Hb.out ?_
  rintro e w1 ⟨p, rfl, hp, h2, h3, x, rfl⟩
  have H2 : Hid _ := h2
  have H3 : Hid _ := h3
  clear h2 h3 Hb
  have hbel := aft_below w x
  have eG := hbel.block G gl
  have hk1 := hk.keep eG
  by_cases hp1 : 1 < p
  · obtain ⟨j, rfl⟩ : ∃ j, p = j + 1 := ⟨p - 1, by omega⟩
    obtain ⟨B, rfl, _, _⟩ := Hrow.out 0 (by omega)
    have hrow1 : RowE (aft w x) (some ⟨B, 0, none⟩) n tg kk := RowE.keep Hrow.out (fun B' e => by
      obtain rfl : B = B' := by simpa using e
      obtain ⟨B2, e2, c2, _⟩ := Hrow.out 0 (by omega)
      obtain rfl : B = B2 := by simpa using e2
      exact hbel.block B (World.block_lt_of_cell? _ _ c2))
    have hBl : B < w.heap.size := by
      obtain ⟨B2, e2, c2, _⟩ := Hrow.out 0 (by omega)
      obtain rfl : B = B2 := by simpa using e2
      exact World.block_lt_of_cell? _ _ c2
    have hd := delete_any (aft w x) B n cap j (cellV tg kk) (by omega) (by omega) hn hnc hcap (fun t ht => by
      obtain ⟨B2, e2, c2, _⟩ := hrow1 t ht
      obtain rfl : B = B2 := by simpa using e2
      exact c2) (fun t ht => by
      obtain ⟨B2, e2, _, c2⟩ := hrow1 t ht
      obtain rfl : B = B2 := by simpa using e2
      exact c2) (fun t _ => cellV_one tg kk t)
    have Hd : Hid _ := hd
    clear hd hrow1
    have c3 := hk1.c3
    have hj1 : IntKind.i64.wrap ((j : Int) + 1 - 1) = (j : Int) := by rw [IntKind.wrap_i64]; omega
    have hj2 : ((j + 1 : Nat) : Int) = (j : Int) + 1 := by omega
    have hj3 : (j : Int) + 1 - 1 = (j : Int) := by omega
    go_wp2_with fail
    refine Calls.mono Hd.out ?_
    rintro e w2 ⟨rfl, g2, r2⟩
    have hne : G ≠ B := fun e => Hne.out B rfl e.symm
    have eG2 : w2.heap[G]? = (aft w x).heap[G]? := g2.block G (by have := hbel.size; omega) (by simp [hne])
    have hk2 := hk1.keep eG2
    have c32 := hk2.c3
    have f32 := hk2.f3
    have hs1 := hbel.size
    have hs2 := g2.size
    have gl2 : G < w2.heap.size := by omega
    have hP : Hid (PruneAt w (w2.setCell ⟨G, 3, none⟩ (.slice (some ⟨B, 0, none⟩) (n - j) cap)) G (some ⟨B, 0, none⟩) n cap tg kk j) := by
      have ho : ∀ o, o ≠ 3 → (w2.setCell ⟨G, 3, none⟩ (.slice (some ⟨B, 0, none⟩) (n - j) cap)).cell? ⟨G, o, none⟩ = w2.cell? ⟨G, o, none⟩ := fun o h => by
        apply World.cell?_setCell_other
        simp [Ne.symm h]
      refine ⟨⟨(ho 0 (by omega)).trans hk2.c0, World.cell?_setCell_same _ _ _ c32, (ho 4 (by omega)).trans hk2.c4, by rw [World.frozen?_setCell]; exact f32⟩, fun t ht => ⟨B, rfl, ?_⟩, fun w0 h0 h1 h2 => ?_, fun k hk h1 h2 => ?_⟩
      · exact (cell_same (Below.heap_setCell w2 ⟨G, 3, none⟩ _ B (Ne.symm hne)) t).trans (r2 t ht)
      · have g1 : w0.grownBy (aft w x) none := grown_trans h0 (grown_aft w x none)
        have g3 : w0.grownBy w2 none := grown_of_above g1 g2 (fun q hq => by simp at hq; have := h2 B rfl; omega)
        exact grown_of_above g3 (grown_setCell w2 ⟨G, 3, none⟩ _) (fun q hq => by simp at hq; omega)
      · rw [Below.heap_setCell w2 ⟨G, 3, none⟩ _ k h1, g2.block k (by omega) (by simpa using h2 B rfl)]
        exact hbel.block k hk
    clear hk hk1 hk2 r2 g2 Hd Hrow Hne
    go_wp2_with fail
    go_end0
    exact ⟨rfl, j + 1, hp, H2.out, H3.out, hP.out⟩
  · have hP : Hid (PruneAt w (aft w x) G a n cap tg kk (p - 1)) := by
      have e0 : p - 1 = 0 := by omega
      rw [e0]
      refine ⟨hk1, fun t ht => ?_, fun w0 h0 _ _ => grown_trans h0 (grown_aft w x none), fun k hk _ _ => hbel.block k hk⟩
      obtain ⟨B, e, c, _⟩ := Hrow.out t (by omega)
      refine ⟨B, e, ?_⟩
      rw [Nat.zero_mul, Nat.zero_add]
      exact aft_cell c x
    clear Hrow Hne hk hk1
    go_wp2_with fail
    go_end0
    exact ⟨rfl, p, hp, H2.out, H3.out, hP.out⟩
end Go.Proofs.Ybulkbefi
