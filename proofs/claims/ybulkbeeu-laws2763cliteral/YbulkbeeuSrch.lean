/- The search, as plain lists: 'pend' is pending (its last element is next), D has been taken from it. No Go in sight. -/
import Derived.Test.YbulkbeeuPlain
namespace Go.Proofs.Ybulkbeeu

abbrev Nd := Nat × Nat

def push1 (D pend : List Nd) (q : Nd) : List Nd := if q ∈ D ++ pend then pend else pend ++ [q]

def pushes (D : List Nd) : List Nd → List Nd → List Nd
  | pend, [] => pend
  | pend, q :: qs => pushes D (push1 D pend q) qs

theorem pushes_append (D : List Nd) : ∀ (a b pend : List Nd), pushes D pend (a ++ b) = pushes D (pushes D pend a) b
  | [], _, _ => rfl
  | q :: a, b, pend => pushes_append D a b (push1 D pend q)

theorem push1_mem (D pend : List Nd) (q p : Nd) : p ∈ D ++ push1 D pend q ↔ p = q ∨ p ∈ D ++ pend := by
  unfold push1
  split
  · rename_i h
    constructor
    · exact .inr
    · rintro (rfl | h') <;> assumption
  · simp only [List.mem_append, List.mem_singleton]
    constructor
    · rintro (h | h | h)
      · exact .inr (.inl h)
      · exact .inr (.inr h)
      · exact .inl h
    · rintro (h | h | h)
      · exact .inr (.inr h)
      · exact .inl h
      · exact .inr (.inl h)

theorem pushes_mem (D : List Nd) : ∀ (qs pend : List Nd) (p : Nd), p ∈ D ++ pushes D pend qs ↔ p ∈ qs ∨ p ∈ D ++ pend
  | [], pend, p => by simp [pushes]
  | q :: qs, pend, p => by
    show p ∈ D ++ pushes D (push1 D pend q) qs ↔ _
    rw [pushes_mem D qs, push1_mem, List.mem_cons]
    constructor
    · rintro (h | h | h)
      · exact .inl (.inr h)
      · exact .inl (.inl h)
      · exact .inr h
    · rintro ((h | h) | h)
      · exact .inr (.inl h)
      · exact .inl h
      · exact .inr (.inr h)

theorem push1_nodup {D pend : List Nd} (q : Nd) (h : (D ++ pend).Nodup) : (D ++ push1 D pend q).Nodup := by
  unfold push1
  split
  · exact h
  · rename_i hq
    rw [← List.append_assoc, List.nodup_append]
    refine ⟨h, by simp, ?_⟩
    intro a ha b hb
    simp at hb
    subst hb
    intro e
    subst e
    exact hq ha

theorem pushes_nodup {D : List Nd} : ∀ (qs pend : List Nd), (D ++ pend).Nodup → (D ++ pushes D pend qs).Nodup
  | [], _, h => h
  | q :: qs, _, h => pushes_nodup qs _ (push1_nodup q h)

/-- Numbers below T, none twice: at most T of them. -/
theorem nodup_below : ∀ (T : Nat) (l : List Nat), l.Nodup → (∀ x ∈ l, x < T) → l.length ≤ T
  | 0, l, _, h => by
    cases l with
    | nil => simp
    | cons a l => exact absurd (h a (by simp)) (by omega)
  | T + 1, l, hn, h => by
    have h1 := nodup_below T (l.erase T) (hn.erase T) (fun x hx => by
      have h2 := h x (List.mem_of_mem_erase hx)
      have h3 : x ≠ T := fun e => by subst e; exact (hn.not_mem_erase hx)
      omega)
    by_cases hT : T ∈ l
    · rw [List.length_erase_of_mem hT] at h1
      omega
    · rw [List.erase_of_not_mem hT] at h1
      omega

def idx (N : Mach) (p : Nd) : Nat := p.1 * 2 * (N.n + 1) + p.2
def total (M N : Mach) : Nat := 2 * (M.n + 1) * (2 * (N.n + 1))

theorem idx_lt {M N : Mach} {p : Nd} (h : inR M N p) : idx N p < total M N := by
  unfold idx total
  obtain ⟨h1, h2⟩ := h
  have e : p.1 * 2 * (N.n + 1) = p.1 * (2 * (N.n + 1)) := by rw [Nat.mul_assoc]
  rw [e]
  generalize 2 * (N.n + 1) = k at *
  have : (p.1 + 1) * k ≤ 2 * (M.n + 1) * k := Nat.mul_le_mul_right k h1
  rw [Nat.add_mul, Nat.one_mul] at this
  omega

theorem idx_inj {M N : Mach} {p q : Nd} (hp : inR M N p) (hq : inR M N q) (h : idx N p = idx N q) : p = q := by
  unfold idx at h
  rw [Nat.mul_assoc, Nat.mul_assoc] at h
  have h1 := hp.2
  have h2 := hq.2
  generalize 2 * (N.n + 1) = k at *
  have hk : 0 < k := by omega
  have e1 : p.1 = q.1 := by
    have a1 : (p.1 * k + p.2) / k = p.1 := by rw [Nat.add_comm, Nat.add_mul_div_right _ _ hk, Nat.div_eq_of_lt h1]; omega
    have a2 : (q.1 * k + q.2) / k = q.1 := by rw [Nat.add_comm, Nat.add_mul_div_right _ _ hk, Nat.div_eq_of_lt h2]; omega
    rw [← a1, ← a2, h]
  have e2 : p.2 = q.2 := by rw [e1] at h; omega
  exact Prod.ext e1 e2

structure Srch (M N : Mach) (D pend : List Nd) : Prop where
  nodup : (D ++ pend).Nodup
  inr : ∀ p ∈ D ++ pend, inR M N p
  rch : ∀ p ∈ D ++ pend, reaches M N (0, 0) p
  cls : ∀ p ∈ D, ¬ fin M N p ∧ ∀ q ∈ succs M N p, q ∈ D ++ pend
  st : (0, 0) ∈ D ++ pend

theorem Srch.start (M N : Mach) : Srch M N [] [(0, 0)] :=
  ⟨by simp, by simpa using start_in M N, by simpa using reaches_refl M N (0, 0), by simp, by simp⟩

theorem map_nodup {f : Nd → Nat} : ∀ (l : List Nd), l.Nodup → (∀ a ∈ l, ∀ b ∈ l, f a = f b → a = b) → (l.map f).Nodup
  | [], _, _ => by simp
  | a :: l, hn, hf => by
    rw [List.nodup_cons] at hn
    rw [List.map_cons, List.nodup_cons]
    refine ⟨?_, map_nodup l hn.2 fun x hx y hy => hf x (List.mem_cons_of_mem _ hx) y (List.mem_cons_of_mem _ hy)⟩
    intro h
    obtain ⟨b, hb, e⟩ := List.mem_map.1 h
    have := hf b (List.mem_cons_of_mem _ hb) a (by simp) e
    subst this
    exact hn.1 hb

theorem length_le {M N : Mach} {l : List Nd} (hn : l.Nodup) (hi : ∀ p ∈ l, inR M N p) : l.length ≤ total M N := by
  have h1 : (l.map (idx N)).Nodup := map_nodup l hn fun a ha b hb e => idx_inj (hi a ha) (hi b hb) e
  have h2 := nodup_below (total M N) (l.map (idx N)) h1 (fun x hx => by
    obtain ⟨p, hp, rfl⟩ := List.mem_map.1 hx
    exact idx_lt (hi p hp))
  simpa using h2

theorem Srch.length {M N : Mach} {D pend : List Nd} (h : Srch M N D pend) : D.length + pend.length ≤ total M N := by
  have := length_le h.nodup h.inr
  simpa using this

/-- One round: p is taken, is no end, and all that it leads to is pushed. -/
theorem Srch.round {M N : Mach} {D pend : List Nd} {p : Nd} (h : Srch M N D (pend ++ [p])) (hf : ¬ fin M N p) : Srch M N (D ++ [p]) (pushes (D ++ [p]) pend (succs M N p)) := by
  have hmem : ∀ q, q ∈ (D ++ [p]) ++ pend ↔ q ∈ D ++ (pend ++ [p]) := by
    intro q
    simp only [List.mem_append, List.mem_singleton]
    constructor
    · rintro ((h | h) | h)
      · exact .inl h
      · exact .inr (.inr h)
      · exact .inr (.inl h)
    · rintro (h | h | h)
      · exact .inl (.inl h)
      · exact .inr h
      · exact .inl (.inr h)
  have hp : p ∈ D ++ (pend ++ [p]) := by simp
  have hnd : ((D ++ [p]) ++ pend).Nodup := by
    have := h.nodup
    have e : ((D ++ [p]) ++ pend).Perm (D ++ (pend ++ [p])) := by
      rw [List.append_assoc]
      exact List.Perm.append_left D List.perm_append_comm
    exact e.nodup_iff.2 this
  refine ⟨pushes_nodup _ _ hnd, ?_, ?_, ?_, ?_⟩
  · intro q hq
    rw [pushes_mem, hmem] at hq
    rcases hq with hq | hq
    · exact succs_in (h.inr p hp) hq
    · exact h.inr q hq
  · intro q hq
    rw [pushes_mem, hmem] at hq
    rcases hq with hq | hq
    · exact reaches_snoc (h.rch p hp) hq
    · exact h.rch q hq
  · intro q hq
    rw [List.mem_append, List.mem_singleton] at hq
    rcases hq with hq | rfl
    · obtain ⟨h1, h2⟩ := h.cls q hq
      exact ⟨h1, fun r hr => by rw [pushes_mem, hmem]; exact .inr (h2 r hr)⟩
    · exact ⟨hf, fun r hr => by rw [pushes_mem]; exact .inl hr⟩
  · rw [pushes_mem, hmem]
    exact .inr h.st

theorem Srch.no {M N : Mach} {D : List Nd} (h : Srch M N D []) : ¬ Meet M N := by
  rintro ⟨q, ⟨k, hk⟩, hf⟩
  have hc := closed_of (S := fun p => p ∈ D) (fun p hp r hr => by simpa using (h.cls p hp).2 r hr) k (0, 0) q (by simpa using h.st) hk
  exact (h.cls q hc).1 hf

theorem Srch.yes {M N : Mach} {D pend : List Nd} {p : Nd} (h : Srch M N D (pend ++ [p])) (hf : fin M N p) : Meet M N := ⟨p, h.rch p (by simp), hf⟩

theorem succs_length (M N : Mach) (p : Nd) : (succs M N p).length ≤ 3 := by
  unfold succs both
  have h1 := to_length M p.1
  have h2 := to_length N p.2
  simp only [List.length_append, List.length_map]
  split <;> simp <;> omega

end Go.Proofs.Ybulkbeeu
