/- slices.BinarySearchFunc, before. -/
import Derived.Test.YbulkbefiLeaf
namespace Go.Proofs.Ybulkbefi
open Go.RowKit
set_option linter.unusedSimpArgs false
set_option linter.unusedVariables false

/-- The entry number i of the row at block B, offset o: tag t. -/
def EAt (w : World) (B o i : Nat) (t k : Int) : Prop :=
  w.cell? ⟨B, o + i * 4, none⟩ = some (.int .u64 t) ∧ w.cell? ⟨B, o + i * 4 + 1, none⟩ = some (.int .i64 k) ∧ w.cell? ⟨B, o + i * 4 + 2, none⟩ = some (.string ⟨#[]⟩) ∧ w.cell? ⟨B, o + i * 4 + 3, none⟩ = some (.bool false)

structure Sorted (n : Nat) (tg : Nat → Int) : Prop where
  le : ∀ i j, i ≤ j → j < n → tg i ≤ tg j

def BsR (w wr : World) (n : Nat) (tg : Nat → Int) (f : Int) (g : Nat) (vi vj : Value) : Prop :=
  ∃ (i j : Nat) (x : Aft), wr = aft w x ∧ g = j - i ∧ vi = .int .i64 i ∧ vj = .int .i64 j ∧ i ≤ j ∧ j ≤ n ∧ (∀ k, k < i → tg k < f) ∧ (∀ k, j ≤ k → k < n → f ≤ tg k)

def BsPost (w : World) (n : Nat) (tg : Nat → Int) (f : Int) (e : Ending) (w' : World) : Prop :=
  ∃ (p : Nat) (b : Bool), e = .returned (.tuple #[.int .i64 p, .bool b]) ∧ p ≤ n ∧ (∀ j, j < p → tg j < f) ∧ (∀ j, p ≤ j → j < n → f ≤ tg j) ∧ ∃ x, w' = aft w x

set_option maxRecDepth 100000 in
set_option maxHeartbeats 2000000 in
theorem bs_any (w : World) (a : Option Addr) (n cap : Nat) (tg kk : Nat → Int) (f : Int) (hn : n ≤ 1024) (hs : Sorted n tg) (hrow : ∀ i, i < n → ∃ B, a = some ⟨B, 0, none⟩ ∧ EAt w B 0 i (tg i) (kk i)) :
    Calls Yba.prog 11 #[.slice a n cap, .int .u64 f, .func (.func 12) #[] #[]] w (BsPost w n tg f) := by
  go_enter Yba.func11, Yba.ntmps11
  go_wp2_with fail
  go_loopg [9, 10] n (fun g vi vj wr => BsR w wr n tg f g vi vj)
  case atStart => exact ⟨0, n, ⟨[], 0⟩, rfl, by simp, rfl, rfl, Nat.zero_le _, Nat.le_refl _, fun k hk => absurd hk (Nat.not_lt_zero _), fun k h1 h2 => absurd h2 (by omega)⟩
  case round =>
    obtain ⟨i, j, x, rfl, hgk, rfl, rfl, hij, hjn, hlo, hhi⟩ := hrel
    have Hgk : Hid (gk = j - i) := hgk
    have Hlo : Hid _ := hlo
    have Hhi : Hid _ := hhi
    clear hgk hlo hhi
    by_cases hlt : i < j
    · obtain ⟨h, hh⟩ : ∃ h, (i + j) / 2 = h := ⟨_, rfl⟩
      have hh1 : i ≤ h := by omega
      have hh2 : h < j := by omega
      obtain ⟨B, rfl, e0, e1, e2, e3⟩ := hrow h (by omega)
      simp only [Nat.zero_add] at e0 e1 e2 e3
      have e0 := aft_cell e0 x
      have e1 := aft_cell e1 x
      have e2 := aft_cell e2 x
      have e3 := aft_cell e3 x
      have hI : ((i : Int) + (j : Int)) / 2 = (h : Int) := by omega
      have hcm : (tg h < f ∧ cmpI (tg h) f < 0) ∨ (f ≤ tg h ∧ ¬ cmpI (tg h) f < 0) := by
        unfold cmpI
        by_cases h1 : tg h < f
        · exact .inl ⟨h1, by rw [if_pos h1]; decide⟩
        · refine .inr ⟨by omega, ?_⟩
          rw [if_neg h1]
          split <;> decide
      have hc := fun W => clos_any (tg h) (kk h) f W
      simp only [entV] at hc
      have Hc : Hid _ := hc
      clear hh hc
      have hs' := hs
      have Hs : Hid _ := hs'
      clear hs hs' hrow
      have Ht : Hid (∀ k, k < h + 1 → tg k ≤ tg h) := fun k hk => Hs.out.le k h (by omega) (by omega)
      have Ht2 : Hid (∀ k, h ≤ k → k < n → tg h ≤ tg k) := fun k hk hkn => Hs.out.le h k hk hkn
      generalize cmpI (tg h) f = c at *
      obtain ⟨th, hth⟩ : ∃ th, tg h = th := ⟨_, rfl⟩
      rw [hth] at e0 Hc hcm
      have Hth : Hid (tg h = th) := hth
      clear hth
      go_wp2_with fail
      refine Calls.mono (Hc.out _) ?_
      rintro e w' ⟨rfl, y, rfl⟩
      rcases hcm with ⟨h1, h2⟩ | ⟨h1, h2⟩
      · go_wp2_with fail
        go_roundg (j - (h + 1))
        case measure => rw [Hgk.out]; omega
        case rel => exact ⟨h + 1, j, _, aft_aft _ _ _, rfl, by go_num, rfl, by omega, hjn, fun k hk => by have := Ht.out k hk; have := Hth.out; omega, Hhi.out⟩
      · go_wp2_with fail
        go_roundg (h - i)
        case measure => rw [Hgk.out]; omega
        case rel => exact ⟨i, h, _, aft_aft _ _ _, rfl, rfl, rfl, hh1, by omega, Hlo.out, fun k hk hkn => by have := Ht2.out k hk hkn; have := Hth.out; omega⟩
    · obtain rfl : i = j := by omega
      by_cases hin : i < n
      · obtain ⟨B, rfl, e0, e1, e2, e3⟩ := hrow i hin
        simp only [Nat.zero_add] at e0 e1 e2 e3
        have e0 := aft_cell e0 x
        have e1 := aft_cell e1 x
        have e2 := aft_cell e2 x
        have e3 := aft_cell e3 x
        have hc := fun W => clos_any (tg i) (kk i) f W
        simp only [entV] at hc
        have Hc : Hid _ := hc
        clear hrow hc hs
        go_wp2_with fail
        refine Calls.mono (Hc.out _) ?_
        rintro e w' ⟨rfl, y, rfl⟩
        go_wp2_with fail
        go_ret2
        exact ⟨i, _, rfl, hjn, Hlo.out, Hhi.out, _, aft_aft _ _ _⟩
      · clear hrow hs
        obtain rfl : i = n := by omega
        go_wp2_with fail
        go_ret2
        exact ⟨i, _, rfl, hjn, Hlo.out, Hhi.out, _, rfl⟩

/-- The receiver: at G, its slice of pairs. -/
structure Known (w : World) (G : Nat) (a : Option Addr) (n cap : Nat) : Prop where
  c0 : w.cell? ⟨G, 0, none⟩ = some (.string ⟨#[120]⟩)
  c3 : w.cell? ⟨G, 3, none⟩ = some (.slice a n cap)
  c4 : w.cell? ⟨G, 4, none⟩ = some (.slice none 0 0)
  f3 : w.frozen? ⟨G, 3, none⟩ = false

def BePost (w : World) (n : Nat) (tg : Nat → Int) (f : Int) (e : Ending) (w' : World) : Prop :=
  ∃ (p : Nat), e = .returned (.int .i64 p) ∧ p ≤ n ∧ (∀ j, j < p → tg j < f) ∧ (∀ j, p ≤ j → j < n → f ≤ tg j) ∧ ∃ x, w' = aft w x

theorem before_any (w : World) (G : Nat) (a : Option Addr) (n cap : Nat) (tg kk : Nat → Int) (f : Int) (hk : Known w G a n cap) (hn : n ≤ 1024) (hs : Sorted n tg) (hrow : ∀ i, i < n → ∃ B, a = some ⟨B, 0, none⟩ ∧ EAt w B 0 i (tg i) (kk i)) :
    Calls Yba.prog 9 #[.pointer (some ⟨G, 0, none⟩), .int .u64 f] w (BePost w n tg f) := by
  have Hb : Hid _ := bs_any w a n cap tg kk f hn hs hrow
  have c3 := hk.c3
  clear hk hs hrow
  go_enter Yba.func9, Yba.ntmps9
  go_wp2_with fail
  refine Calls.mono Hb.out ?_
  rintro e w' ⟨p, b, rfl, h1, h2, h3, x, rfl⟩
  have H2 : Hid _ := h2
  have H3 : Hid _ := h3
  clear h2 h3
  go_wp2_with fail
  go_ret
  exact ⟨p, rfl, h1, H2.out, H3.out, x, rfl⟩
end Go.Proofs.Ybulkbefi
