/- Plain mathematics: two machines walked at once. An entry is one number: 2 * state + (1 right behind a '/'). No Go in sight. -/
import GoSem.Core.Value
namespace Go.Proofs.Ybulkbeeu

/-- A set of bytes: the first two of its four words (the other two are 0). -/
structure Bs where
  w0 : Nat
  w1 : Nat

structure St where
  op : Nat
  b : Nat
  arg : Nat

structure Mach where
  states : List St
  classes : List Bs

def St.none : St := ⟨0, 0, 0⟩
def Bs.none : Bs := ⟨0, 0⟩
def Mach.n (M : Mach) : Nat := M.states.length
def Mach.at (M : Mach) (i : Nat) : St := M.states.getD i St.none
def Mach.cls (M : Mach) (i : Nat) : Bs := M.classes.getD i Bs.none

def bset (b : Nat) : Bs := if b < 64 then ⟨2 ^ b, 0⟩ else ⟨0, 2 ^ (b - 64)⟩
def meetB (s t : Bs) : Bool := (s.w0 &&& t.w0 != 0) || (s.w1 &&& t.w1 != 0)

/-- What entering X leads to, taking no byte. -/
def Mach.to (M : Mach) (X : Nat) : List Nat :=
  if X / 2 = M.n then [] else
  if (M.at (X / 2)).op = 0 then (if (M.at (X / 2)).b = 47 ∧ X % 2 = 1 then [2 * (X / 2 + 1) + 1] else [])
  else if (M.at (X / 2)).op = 2 then [2 * (X / 2 + 1)] else []

def Mach.tk (M : Mach) (X : Nat) : Bool :=
  if X / 2 = M.n then false else
  if (M.at (X / 2)).op = 0 then (if (M.at (X / 2)).b = 47 ∧ X % 2 = 1 then false else true) else true

def Mach.set (M : Mach) (i : Nat) : Bs := if (M.at i).op = 0 then bset (M.at i).b else M.cls (M.at i).arg

def Mach.taken (M : Mach) (i : Nat) : Nat :=
  if (M.at i).op = 2 then 2 * i else if (M.at i).op = 0 then (if (M.at i).b = 47 then 2 * (i + 1) + 1 else 2 * (i + 1)) else 2 * (i + 1)

def both (M N : Mach) (X Y : Nat) : List (Nat × Nat) :=
  if M.tk X = true ∧ N.tk Y = true ∧ meetB (M.set (X / 2)) (N.set (Y / 2)) = true then [(M.taken (X / 2), N.taken (Y / 2))] else []

def succs (M N : Mach) (p : Nat × Nat) : List (Nat × Nat) :=
  (M.to p.1).map (fun x => (x, p.2)) ++ (N.to p.2).map (fun y => (p.1, y)) ++ both M N p.1 p.2

def fin (M N : Mach) (p : Nat × Nat) : Prop := p.1 / 2 = M.n ∧ p.2 / 2 = N.n

/-- From p to q in k steps. -/
def stepsTo (M N : Mach) : Nat → Nat × Nat → Nat × Nat → Prop
  | 0, p, q => p = q
  | k + 1, p, q => ∃ r, r ∈ succs M N p ∧ stepsTo M N k r q

def reaches (M N : Mach) (p q : Nat × Nat) : Prop := ∃ k, stepsTo M N k p q
def Meet (M N : Mach) : Prop := ∃ q, reaches M N (0, 0) q ∧ fin M N q

theorem reaches_refl (M N : Mach) (p : Nat × Nat) : reaches M N p p := ⟨0, rfl⟩

theorem stepsTo_snoc {M N : Mach} : ∀ (k : Nat) (p q r : Nat × Nat), stepsTo M N k p q → r ∈ succs M N q → stepsTo M N (k + 1) p r
  | 0, p, q, r, h, hr => by cases h; exact ⟨r, hr, rfl⟩
  | k + 1, p, q, r, ⟨s, hs, h⟩, hr => ⟨s, hs, stepsTo_snoc k s q r h hr⟩

theorem reaches_snoc {M N : Mach} {p q r : Nat × Nat} (h : reaches M N p q) (hr : r ∈ succs M N q) : reaches M N p r := by
  obtain ⟨k, hk⟩ := h
  exact ⟨k + 1, stepsTo_snoc k p q r hk hr⟩

theorem stepsTo_trans {M N : Mach} : ∀ (k j : Nat) (p q r : Nat × Nat), stepsTo M N k p q → stepsTo M N j q r → stepsTo M N (k + j) p r
  | 0, j, p, q, r, h, hr => by cases h; simpa using hr
  | k + 1, j, p, q, r, ⟨s, hs, h⟩, hr => by
    rw [show k + 1 + j = (k + j) + 1 from by omega]
    exact ⟨s, hs, stepsTo_trans k j s q r h hr⟩

theorem reaches_trans {M N : Mach} {p q r : Nat × Nat} (h : reaches M N p q) (hr : reaches M N q r) : reaches M N p r := by
  obtain ⟨k, hk⟩ := h
  obtain ⟨j, hj⟩ := hr
  exact ⟨k + j, stepsTo_trans k j p q r hk hj⟩

/-- A set that holds the start and is closed holds all that is reached. -/
theorem closed_of {M N : Mach} {S : Nat × Nat → Prop} (hc : ∀ p, S p → ∀ q ∈ succs M N p, S q) : ∀ (k : Nat) (p q : Nat × Nat), S p → stepsTo M N k p q → S q
  | 0, p, q, hp, h => by cases h; exact hp
  | k + 1, p, q, hp, ⟨r, hr, h⟩ => closed_of hc k r q (hc p hp r hr) h

/-! ### Bounds -/
structure Mach.Ok (M : Mach) : Prop where
  n256 : M.n ≤ 257
  op : ∀ i, i < M.n → (M.at i).op ≤ 2
  by_ : ∀ i, i < M.n → (M.at i).op = 0 → (M.at i).b = 47 ∨ (M.at i).b = 97 ∨ (M.at i).b = 98 ∨ (M.at i).b = 99
  arg : ∀ i, i < M.n → (M.at i).op ≠ 0 → (M.at i).arg < M.classes.length
  cls : ∀ i, i < M.classes.length → (M.cls i).w0 < 18446744073709551616 ∧ (M.cls i).w1 < 18446744073709551616

def inR (M N : Mach) (p : Nat × Nat) : Prop := p.1 < 2 * (M.n + 1) ∧ p.2 < 2 * (N.n + 1)

theorem to_lt {M : Mach} {X y : Nat} (hX : X < 2 * (M.n + 1)) (h : y ∈ M.to X) : y < 2 * (M.n + 1) := by
  unfold Mach.to at h
  split at h
  · simp at h
  · split at h
    · split at h
      · simp at h; omega
      · simp at h
    · split at h
      · simp at h; omega
      · simp at h

theorem to_length (M : Mach) (X : Nat) : (M.to X).length ≤ 1 := by
  unfold Mach.to
  repeat' split
  all_goals simp

theorem tk_lt {M : Mach} {X : Nat} (hX : X < 2 * (M.n + 1)) (h : M.tk X = true) : X / 2 < M.n := by
  unfold Mach.tk at h
  split at h
  · simp at h
  · omega

theorem taken_lt {M : Mach} {i : Nat} (hi : i < M.n) : M.taken i < 2 * (M.n + 1) := by
  unfold Mach.taken
  repeat' split
  all_goals omega

theorem succs_in {M N : Mach} {p q : Nat × Nat} (hp : inR M N p) (h : q ∈ succs M N p) : inR M N q := by
  unfold succs both at h
  rw [List.mem_append, List.mem_append, List.mem_map, List.mem_map] at h
  rcases h with (⟨x, hx, rfl⟩ | ⟨y, hy, rfl⟩) | h
  · exact ⟨to_lt hp.1 hx, hp.2⟩
  · exact ⟨hp.1, to_lt hp.2 hy⟩
  · split at h
    · rename_i hc
      simp at h
      subst h
      exact ⟨taken_lt (tk_lt hp.1 hc.1), taken_lt (tk_lt hp.2 hc.2.1)⟩
    · simp at h

theorem start_in (M N : Mach) : inR M N (0, 0) := by unfold inR; simp

/-! ### Symmetry -/
theorem meetB_comm (s t : Bs) : meetB s t = meetB t s := by
  unfold meetB
  rw [Nat.and_comm s.w0, Nat.and_comm s.w1]

theorem succs_swap {M N : Mach} {p q : Nat × Nat} (h : q ∈ succs M N p) : (q.2, q.1) ∈ succs N M (p.2, p.1) := by
  unfold succs both at *
  rw [List.mem_append, List.mem_append, List.mem_map, List.mem_map] at *
  rcases h with (⟨x, hx, rfl⟩ | ⟨y, hy, rfl⟩) | h
  · exact .inl (.inr ⟨x, hx, rfl⟩)
  · exact .inl (.inl ⟨y, hy, rfl⟩)
  · right
    split at h
    · rename_i hc
      simp at h
      subst h
      rw [if_pos ⟨hc.2.1, hc.1, by rw [meetB_comm]; exact hc.2.2⟩]
      simp
    · simp at h

theorem stepsTo_swap {M N : Mach} : ∀ (k : Nat) (p q : Nat × Nat), stepsTo M N k p q → stepsTo N M k (p.2, p.1) (q.2, q.1)
  | 0, p, q, h => by cases h; rfl
  | k + 1, p, q, ⟨r, hr, h⟩ => ⟨(r.2, r.1), succs_swap hr, stepsTo_swap k r q h⟩

theorem Meet_swap {M N : Mach} (h : Meet M N) : Meet N M := by
  obtain ⟨q, ⟨k, hk⟩, hf⟩ := h
  exact ⟨(q.2, q.1), ⟨k, stepsTo_swap k _ _ hk⟩, hf.2, hf.1⟩

/-! ### A machine of nonempty sets meets itself -/
theorem meetB_self {s : Bs} (h : s.w0 ≠ 0 ∨ s.w1 ≠ 0) : meetB s s = true := by
  unfold meetB
  rw [Nat.and_self, Nat.and_self]
  simpa using h

theorem self_step {M : Mach} (hne : ∀ i, i < M.n → (M.set i).w0 ≠ 0 ∨ (M.set i).w1 ≠ 0) (X : Nat) (hX : X / 2 < M.n) :
    ∃ Y, Y / 2 = X / 2 + 1 ∧ reaches M M (X, X) (Y, Y) := by
  have hn : ¬ X / 2 = M.n := by omega
  by_cases h0 : (M.at (X / 2)).op = 0
  · by_cases hs : (M.at (X / 2)).b = 47 ∧ X % 2 = 1
    · have ht : M.to X = [2 * (X / 2 + 1) + 1] := by unfold Mach.to; rw [if_neg hn, if_pos h0, if_pos hs]
      refine ⟨2 * (X / 2 + 1) + 1, by omega, reaches_snoc (q := (2 * (X / 2 + 1) + 1, X)) (reaches_snoc (reaches_refl _ _ _) ?_) ?_⟩
      · unfold succs; rw [ht]; simp
      · unfold succs; rw [ht]; simp
    · have htk : M.tk X = true := by unfold Mach.tk; rw [if_neg hn, if_pos h0, if_neg hs]
      refine ⟨M.taken (X / 2), ?_, reaches_snoc (reaches_refl _ _ _) ?_⟩
      · unfold Mach.taken; rw [if_neg (by omega), if_pos h0]; split <;> omega
      · unfold succs both; rw [if_pos ⟨htk, htk, meetB_self (hne _ hX)⟩]; simp
  · have htk : M.tk X = true := by unfold Mach.tk; rw [if_neg hn, if_neg h0]
    by_cases h2 : (M.at (X / 2)).op = 2
    · have ht : M.to X = [2 * (X / 2 + 1)] := by unfold Mach.to; rw [if_neg hn, if_neg h0, if_pos h2]
      refine ⟨2 * (X / 2 + 1), by omega, reaches_snoc (q := (2 * (X / 2 + 1), X)) (reaches_snoc (reaches_refl _ _ _) ?_) ?_⟩
      · unfold succs; rw [ht]; simp
      · unfold succs; rw [ht]; simp
    · refine ⟨M.taken (X / 2), ?_, reaches_snoc (reaches_refl _ _ _) ?_⟩
      · unfold Mach.taken; rw [if_neg h2, if_neg h0]; omega
      · unfold succs both; rw [if_pos ⟨htk, htk, meetB_self (hne _ hX)⟩]; simp

theorem self_at {M : Mach} (hne : ∀ i, i < M.n → (M.set i).w0 ≠ 0 ∨ (M.set i).w1 ≠ 0) : ∀ i, i ≤ M.n → ∃ X, X / 2 = i ∧ reaches M M (0, 0) (X, X)
  | 0, _ => ⟨0, rfl, reaches_refl _ _ _⟩
  | i + 1, hi => by
    obtain ⟨X, hX, hr⟩ := self_at hne i (by omega)
    obtain ⟨Y, hY, hs⟩ := self_step hne X (by omega)
    exact ⟨Y, by omega, reaches_trans hr hs⟩

theorem Meet_self {M : Mach} (hne : ∀ i, i < M.n → (M.set i).w0 ≠ 0 ∨ (M.set i).w1 ≠ 0) : Meet M M := by
  obtain ⟨X, hX, hr⟩ := self_at hne M.n (Nat.le_refl _)
  exact ⟨(X, X), hr, hX, hX⟩

end Go.Proofs.Ybulkbeeu
