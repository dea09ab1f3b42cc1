/- slices.Delete at the row's head. -/
import Derived.Test.YbulkbefiSearch
import Derived.Deep.RegionLaw
import Derived.Lib.SliceRun
namespace Go.Proofs.Ybulkbefi
open Go.RowKit
set_option linter.unusedSimpArgs false
set_option linter.unusedVariables false

theorem Yba.i31 : (Yba.prog.info? 31).map (fun i => (i.zero, i.size, i.bytes)) = some (some (.agg #[.int .u64 0, .int .i64 0, .string ⟨#[]⟩, .bool false]), 4, 40) := by kernel_rfl

def zs31 (n : Nat) : List Value := (Builtin.zeroCells #[.int .u64 0, .int .i64 0, .string ⟨#[]⟩, .bool false] n).toList

theorem zs31_length (n : Nat) : (zs31 n).length = n * 4 := by simp [zs31, Builtin.zeroCells]

theorem zs31_one (n : Nat) : ∀ v ∈ zs31 n, v.oneCell' = true := by
  intro v hv
  simp [zs31, Builtin.zeroCells] at hv
  obtain ⟨i, hi, rfl⟩ := hv
  have h4 : i % 4 = 0 ∨ i % 4 = 1 ∨ i % 4 = 2 ∨ i % 4 = 3 := by omega
  rcases h4 with h | h | h | h <;> rw [h] <;> rfl

theorem run_clear31 (w : World) (ty : TypeId) (b o n c : Nat) (hn : 0 < n)
    (hc : ∀ j, j < n * 4 → (w.cell? ⟨b, o + j, none⟩).isSome = true) (hf : ∀ j, j < n * 4 → w.frozen? ⟨b, o + j, none⟩ = false) :
    (Builtin.clear_ #[26] ty #[.slice (some ⟨b, o, none⟩) n c]).run Yba.prog w = .ok (.tuple #[]) (w.setCells b o (zs31 n)) := by
  have hst := run_storeCells_cells (P := Yba.prog) b o (zs31 n) 0 w (by rw [zs31_length]; simpa using hc) (by rw [zs31_length]; simpa using hf) (zs31_one n)
  simp only [Nat.add_zero] at hst
  obtain ⟨m, rfl⟩ : ∃ m, n = m + 1 := ⟨n - 1, by omega⟩
  have hv := fun w => Yba.zeroValue31 w
  unfold zs31 at hst ⊢
  simp [Builtin.clear_, run_underlying Yba.underlying26, hv, hst, Value.cells]

theorem grown_setCells (b : Nat) : ∀ (vs : List Value) (o : Nat) (w : World), w.grownBy (w.setCells b o vs) (some b)
  | [], o, w => ⟨rfl, rfl, rfl, Nat.le_refl _, fun _ _ _ => rfl⟩
  | v :: vs, o, w => grown_trans (grown_setCell w ⟨b, o, none⟩ v) (grown_setCells b vs (o + 1) (w.setCell ⟨b, o, none⟩ v))

theorem frozen_setCells (b : Nat) (a : Addr) : ∀ (vs : List Value) (o : Nat) (w : World), (w.setCells b o vs).frozen? a = w.frozen? a
  | [], o, w => rfl
  | v :: vs, o, w => (frozen_setCells b a vs (o + 1) (w.setCell ⟨b, o, none⟩ v)).trans (World.frozen?_setCell _ _ _ _)

def DelPost (w : World) (B n cap j : Nat) (vs : Nat → Value) (e : Ending) (w' : World) : Prop :=
  e = .returned (.slice (some ⟨B, 0, none⟩) (n - j) cap) ∧ w.grownBy w' (some B) ∧ ∀ t, t < (n - j) * 4 → w'.cell? ⟨B, t, none⟩ = some (vs (j * 4 + t))

set_option maxRecDepth 100000 in
set_option maxHeartbeats 2000000 in
theorem delete_any (w : World) (B n cap j : Nat) (vs : Nat → Value) (hj0 : 0 < j) (hjn : j < n) (hn : n ≤ 1024) (hnc : n ≤ cap) (hcap : cap ≤ 9223372036854775807) (hc : ∀ t, t < n * 4 → w.cell? ⟨B, t, none⟩ = some (vs t)) (hf : ∀ t, t < n * 4 → w.frozen? ⟨B, t, none⟩ = false)
    (h1 : ∀ t, t < n * 4 → (vs t).oneCell' = true) :
    Calls Yba.prog 10 #[.slice (some ⟨B, 0, none⟩) n cap, .int .i64 0, .int .i64 j] w (DelPost w B n cap j vs) := by
  obtain ⟨i0, hi0, hz0, hz1, hz2⟩ := info_parts Yba.i31
  obtain ⟨m, hm⟩ : ∃ m, m = n - j := ⟨_, rfl⟩
  obtain ⟨news, hnews⟩ : ∃ news : List Value, news = (List.range (m * 4)).map (fun t => vs (j * 4 + t)) := ⟨_, rfl⟩
  have hlen : news.length = m * 4 := by rw [hnews]; simp
  have hget : ∀ t, t < m * 4 → news[t]? = some (vs (j * 4 + t)) := fun t ht => by rw [hnews]; simp [ht]
  have hsrc : Hid (∀ t u, news[t]? = some u → w.drew.cell? ((⟨B, j * 4, none⟩ : Addr).add t) = some u) := fun t u hu => by
    have ht : t < m * 4 := by
      have := (List.getElem?_eq_some_iff.1 hu).1
      rwa [hlen] at this
    rw [hget t ht] at hu
    rw [Addr.add_lit]
    exact (hc (j * 4 + t) (by omega)).trans hu
  have s1 : Hid (news.length = m * 4) := hlen
  have s2 : Hid (∀ u ∈ news, u.oneCell' = true) := by
    intro u hu
    rw [hnews] at hu
    obtain ⟨x, hx, rfl⟩ := List.mem_map.1 hu
    exact h1 _ (by have := List.mem_range.1 hx; omega)
  have s3 : Hid (∀ t, t < news.length → (w.drew.cell? ⟨B, 0 + 0 * 4 + t, none⟩).isSome = true ∧ w.drew.frozen? ⟨B, 0 + 0 * 4 + t, none⟩ = false) := by
    intro t ht
    rw [hlen] at ht
    simp only [Nat.zero_mul, Nat.zero_add]
    exact ⟨by show (w.cell? _).isSome = true; rw [hc t (by omega)]; rfl, hf t (by omega)⟩
  obtain ⟨W1, hW1⟩ : ∃ W1, W1 = w.drew.setCells B (0 + 0 * 4) news := ⟨_, rfl⟩
  have hin : ∀ t, t < m * 4 → W1.cell? ⟨B, t, none⟩ = some (vs (j * 4 + t)) := fun t ht => by
    have h := World.cell?_setCells_in B news 0 w.drew (fun t ht => by
      rw [Nat.zero_add]
      show (w.cell? _).isSome = true
      rw [hc t (by omega)]; rfl) t (by omega)
    rw [hW1]
    simp only [Nat.zero_mul, Nat.zero_add] at h ⊢
    rw [h]
    have h2 := hget t ht
    rw [List.getElem?_eq_getElem (by omega)] at h2
    exact h2
  have hsome : ∀ t, t < n * 4 → (W1.cell? ⟨B, t, none⟩).isSome = true := fun t ht => by
    by_cases hlt : t < m * 4
    · rw [hin t hlt]; rfl
    · rw [hW1, World.cell?_setCells_out B news _ w.drew _ (fun _ _ => by right; show 0 + 0 * 4 + news.length ≤ t; omega)]
      show (w.cell? _).isSome = true
      rw [hc t ht]; rfl
  have hfro : ∀ t, t < n * 4 → W1.frozen? ⟨B, t, none⟩ = false := fun t ht => by
    rw [hW1, frozen_setCells]; exact hf t ht
  have hcl : ∀ ty, (Builtin.clear_ #[26] ty #[.slice (some ⟨B, m * 4, none⟩) (n - m) (cap - m)]).run Yba.prog W1 = .ok (.tuple #[]) (W1.setCells B (m * 4) (zs31 (n - m))) :=
    fun ty => run_clear31 W1 ty B (m * 4) (n - m) (cap - m) (by omega) (fun t ht => hsome _ (by omega)) (fun t ht => hfro _ (by omega))
  have hpost : Hid (DelPost w B n cap j vs (.returned (.slice (some ⟨B, 0, none⟩) m cap)) (W1.setCells B (m * 4) (zs31 (n - m)))) := by
    refine ⟨by rw [hm], grown_trans ?_ (grown_setCells B _ _ W1), fun t ht => ?_⟩
    · rw [hW1]
      exact grown_trans (grown_aft w ⟨[], 1⟩ _) (grown_setCells B _ _ _)
    · rw [← hm] at ht
      rw [World.cell?_setCells_out B _ _ W1 _ (fun _ _ => by left; exact ht)]
      exact hin t ht
  have hW : Hid (W1 = w.drew.setCells B (0 + 0 * 4) news) := hW1
  have q1 : ¬ cap = j := by omega
  have q2 : ¬ cap = m := by omega
  have q3 : j ≤ cap := by omega
  have q4 : m ≤ n := by omega
  have q5 : m ≤ cap := by omega
  have q6 : n - j = m := hm.symm
  have q7 : 0 < m := by omega
  have q8 : j ≤ n := by omega
  have q9 : 0 ≤ n := by omega
  clear hW1 hin hsome hfro hget hnews hlen hc hf h1 hm
  go_enter Yba.func10, Yba.ntmps10
  go_wp2_with fail
  go_region_law (refine step_append_room rfl (.tmp 22) (.tmp 25) 26 rfl 31 i0 4 Yba.underlying26 hi0 hz1 B 0 0 cap (by simp [Act.eval, Act.put]) ⟨B, j * 4, none⟩ m (cap - j) news (by simp [Act.eval, Act.put]) s1.out hsrc.out s2.out (by omega) s3.out ?_; rw [← hW.out])
  all_goals
    go_wp2_with fail
    go_ret
    exact hpost.out
end Go.Proofs.Ybulkbefi
