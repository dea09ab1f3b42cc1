/- Plain mathematics: two literals over a, b, c, the first perhaps with a run behind it. No Go in sight. -/
import Derived.Test.YbulkbeeuPlain
namespace Go.Proofs.Ybulkbeeu
set_option linter.unusedSimpArgs false
set_option linter.unusedVariables false

def clsC : Bs := ⟨0, 60129542144⟩
def litS (b : Nat) : St := ⟨0, b, 0⟩
def litM (gs : List Nat) (star : Bool) : Mach := ⟨gs.map litS ++ (if star then [⟨2, 0, 0⟩] else []), if star then [clsC] else []⟩

def Abc (gs : List Nat) : Prop := ∀ b ∈ gs, b = 97 ∨ b = 98 ∨ b = 99

theorem lit_n (gs : List Nat) (s : Bool) : (litM gs s).n = gs.length + (if s then 1 else 0) := by
  cases s <;> simp [litM, Mach.n]

theorem lit_at (gs : List Nat) (s : Bool) (i : Nat) (h : i < gs.length) : (litM gs s).at i = ⟨0, gs[i], 0⟩ := by
  unfold Mach.at litM
  rw [List.getD_eq_getElem?_getD, List.getElem?_append_left (by simpa using h), List.getElem?_map, List.getElem?_eq_getElem h]
  rfl

theorem lit_at_star (gs : List Nat) : (litM gs true).at gs.length = ⟨2, 0, 0⟩ := by
  unfold Mach.at litM
  rw [List.getD_eq_getElem?_getD, List.getElem?_append_right (by simp)]
  simp

theorem lit_to (gs : List Nat) (hg : Abc gs) (s : Bool) (i : Nat) (h : i < gs.length) : (litM gs s).to (2 * i) = [] := by
  have hb := hg _ (List.getElem_mem h)
  unfold Mach.to
  rw [show 2 * i / 2 = i from by omega, lit_at gs s i h, lit_n]
  rw [if_neg (by split <;> omega), if_pos rfl, if_neg (by omega)]

theorem lit_to_end (gs : List Nat) (s : Bool) (i : Nat) (h : i = (litM gs s).n) : (litM gs s).to (2 * i) = [] := by
  unfold Mach.to
  rw [show 2 * i / 2 = i from by omega, if_pos h]

theorem lit_to_star (gs : List Nat) : (litM gs true).to (2 * gs.length) = [2 * (gs.length + 1)] := by
  unfold Mach.to
  rw [show 2 * gs.length / 2 = gs.length from by omega, lit_at_star, lit_n]
  simp

theorem lit_tk (gs : List Nat) (hg : Abc gs) (s : Bool) (i : Nat) (h : i < gs.length) : (litM gs s).tk (2 * i) = true := by
  have hb := hg _ (List.getElem_mem h)
  unfold Mach.tk
  rw [show 2 * i / 2 = i from by omega, lit_at gs s i h, lit_n]
  rw [if_neg (by split <;> omega), if_pos rfl, if_neg (by omega)]

theorem lit_tk_end (gs : List Nat) (s : Bool) (i : Nat) (h : i = (litM gs s).n) : (litM gs s).tk (2 * i) = false := by
  unfold Mach.tk
  rw [show 2 * i / 2 = i from by omega, if_pos h]

theorem lit_tk_star (gs : List Nat) : (litM gs true).tk (2 * gs.length) = true := by
  unfold Mach.tk
  rw [show 2 * gs.length / 2 = gs.length from by omega, lit_at_star, lit_n]
  simp

theorem lit_set (gs : List Nat) (s : Bool) (i : Nat) (h : i < gs.length) : (litM gs s).set i = bset gs[i] := by
  unfold Mach.set
  rw [lit_at gs s i h, if_pos rfl]

theorem lit_set_star (gs : List Nat) : (litM gs true).set gs.length = clsC := by
  unfold Mach.set
  rw [lit_at_star]
  simp [Mach.cls, litM]

theorem lit_taken (gs : List Nat) (hg : Abc gs) (s : Bool) (i : Nat) (h : i < gs.length) : (litM gs s).taken i = 2 * (i + 1) := by
  have hb := hg _ (List.getElem_mem h)
  unfold Mach.taken
  rw [lit_at gs s i h, if_neg (by simp), if_pos rfl, if_neg (by show ¬ gs[i] = 47; omega)]

theorem lit_taken_star (gs : List Nat) : (litM gs true).taken gs.length = 2 * gs.length := by
  unfold Mach.taken
  rw [lit_at_star, if_pos rfl]

theorem meet_abc {a b : Nat} (ha : a = 97 ∨ a = 98 ∨ a = 99) (hb : b = 97 ∨ b = 98 ∨ b = 99) : meetB (bset a) (bset b) = true ↔ a = b := by
  rcases ha with rfl | rfl | rfl <;> rcases hb with rfl | rfl | rfl <;> decide +kernel

theorem meet_cls {b : Nat} (hb : b = 97 ∨ b = 98 ∨ b = 99) : meetB clsC (bset b) = true := by
  rcases hb with rfl | rfl | rfl <;> decide +kernel

theorem mem_succs {M N : Mach} {p q : Nat × Nat} : q ∈ succs M N p ↔ (∃ x ∈ M.to p.1, (x, p.2) = q) ∨ (∃ y ∈ N.to p.2, (p.1, y) = q) ∨ ((M.tk p.1 = true ∧ N.tk p.2 = true ∧ meetB (M.set (p.1 / 2)) (N.set (p.2 / 2)) = true) ∧ q = (M.taken (p.1 / 2), N.taken (p.2 / 2))) := by
  unfold succs both
  rw [List.mem_append, List.mem_append, List.mem_map, List.mem_map, or_assoc]
  split
  · rename_i h; simp [h]
  · rename_i h; simp [h]

/-- What is reached. -/
def At (gs hs : List Nat) (star : Bool) (q : Nat × Nat) : Prop :=
  ∃ i j, q = (2 * i, 2 * j) ∧ j ≤ hs.length ∧ ((i = j ∧ i ≤ gs.length ∧ gs.take i = hs.take i) ∨ (star = true ∧ gs.length ≤ j ∧ (i = gs.length ∨ i = gs.length + 1) ∧ gs = hs.take gs.length))

theorem take_snoc {gs hs : List Nat} {i : Nat} (h1 : i < gs.length) (h2 : i < hs.length) (h : gs.take i = hs.take i) (e : gs[i] = hs[i]) : gs.take (i + 1) = hs.take (i + 1) := by
  rw [List.take_succ_eq_append_getElem h1, List.take_succ_eq_append_getElem h2, h, e]

theorem at_closed (gs hs : List Nat) (star : Bool) (hg : Abc gs) (hh : Abc hs) (p : Nat × Nat) (hp : At gs hs star p) (q : Nat × Nat) (hq : q ∈ succs (litM gs star) (litM hs false) p) : At gs hs star q := by
  obtain ⟨i, j, rfl, hj, hp⟩ := hp
  have hn : (litM hs false).n = hs.length := by simp [lit_n]
  have hto : (litM hs false).to (2 * j) = [] := by
    by_cases h : j < hs.length
    · exact lit_to hs hh false j h
    · exact lit_to_end hs false j (by omega)
  rw [mem_succs] at hq
  simp only [hto, show 2 * i / 2 = i from by omega, show 2 * j / 2 = j from by omega] at hq
  have hjt : (litM hs false).tk (2 * j) = true → j < hs.length := fun h => by
    by_cases h2 : j < hs.length
    · exact h2
    · rw [lit_tk_end hs false j (by omega)] at h; simp at h
  rcases hp with ⟨rfl, hi, he⟩ | ⟨rfl, hpj, hi, he⟩
  · by_cases hlt : i < gs.length
    · rcases hq with ⟨x, hx, rfl⟩ | ⟨y, hy, rfl⟩ | ⟨⟨t1, t2, t3⟩, rfl⟩
      · rw [lit_to gs hg star i hlt] at hx; simp at hx
      · simp at hy
      · have hj2 := hjt t2
        rw [lit_set gs star i hlt, lit_set hs false i hj2, meet_abc (hg _ (List.getElem_mem hlt)) (hh _ (List.getElem_mem hj2))] at t3
        rw [lit_taken gs hg star i hlt, lit_taken hs hh false i hj2]
        exact ⟨i + 1, i + 1, rfl, by omega, .inl ⟨rfl, by omega, take_snoc hlt hj2 he t3⟩⟩
    · obtain rfl : i = gs.length := by omega
      have he2 : gs = hs.take gs.length := by rw [← he]; simp
      cases star
      · rcases hq with ⟨x, hx, rfl⟩ | ⟨y, hy, rfl⟩ | ⟨⟨t1, t2, t3⟩, rfl⟩
        · rw [lit_to_end gs false _ (by simp [lit_n])] at hx; simp at hx
        · simp at hy
        · rw [lit_tk_end gs false _ (by simp [lit_n])] at t1; simp at t1
      · rcases hq with ⟨x, hx, rfl⟩ | ⟨y, hy, rfl⟩ | ⟨⟨t1, t2, t3⟩, rfl⟩
        · rw [lit_to_star] at hx
          simp at hx
          subst hx
          exact ⟨gs.length + 1, gs.length, rfl, hj, .inr ⟨rfl, Nat.le_refl _, .inr rfl, he2⟩⟩
        · simp at hy
        · have hj2 := hjt t2
          rw [lit_taken_star, lit_taken hs hh false _ hj2]
          exact ⟨gs.length, gs.length + 1, rfl, by omega, .inr ⟨rfl, by omega, .inl rfl, he2⟩⟩
  · rcases hi with rfl | rfl
    · rcases hq with ⟨x, hx, rfl⟩ | ⟨y, hy, rfl⟩ | ⟨⟨t1, t2, t3⟩, rfl⟩
      · rw [lit_to_star] at hx
        simp at hx
        subst hx
        exact ⟨gs.length + 1, j, rfl, hj, .inr ⟨rfl, hpj, .inr rfl, he⟩⟩
      · simp at hy
      · have hj2 := hjt t2
        rw [lit_taken_star, lit_taken hs hh false _ hj2]
        exact ⟨gs.length, j + 1, rfl, by omega, .inr ⟨rfl, by omega, .inl rfl, he⟩⟩
    · rcases hq with ⟨x, hx, rfl⟩ | ⟨y, hy, rfl⟩ | ⟨⟨t1, t2, t3⟩, rfl⟩
      · rw [lit_to_end gs true _ (by simp [lit_n])] at hx; simp at hx
      · simp at hy
      · rw [lit_tk_end gs true _ (by simp [lit_n])] at t1; simp at t1

theorem lit_walk (gs hs : List Nat) (star : Bool) (hg : Abc gs) (hh : Abc hs) (hl : gs.length ≤ hs.length) (he : gs = hs.take gs.length) : ∀ i, i ≤ gs.length → reaches (litM gs star) (litM hs false) (0, 0) (2 * i, 2 * i)
  | 0, _ => reaches_refl _ _ _
  | i + 1, h => by
    refine reaches_snoc (lit_walk gs hs star hg hh hl he i (by omega)) ?_
    have h1 : i < gs.length := by omega
    have h2 : i < hs.length := by omega
    have e : gs[i] = hs[i] := by
      have := congrArg (fun l => l[i]?) he
      simp only [List.getElem?_eq_getElem h1] at this
      rw [List.getElem?_take_of_lt h1, List.getElem?_eq_getElem h2] at this
      simpa using this
    rw [mem_succs]
    simp only [show 2 * i / 2 = i from by omega]
    refine .inr (.inr ⟨⟨lit_tk gs hg star i h1, lit_tk hs hh false i h2, ?_⟩, ?_⟩)
    · rw [lit_set gs star i h1, lit_set hs false i h2, meet_abc (hg _ (List.getElem_mem h1)) (hh _ (List.getElem_mem h2))]
      exact e
    · rw [lit_taken gs hg star i h1, lit_taken hs hh false i h2]

theorem lit_run (gs hs : List Nat) (hg : Abc gs) (hh : Abc hs) (hl : gs.length ≤ hs.length) (he : gs = hs.take gs.length) : ∀ j, gs.length + j ≤ hs.length → reaches (litM gs true) (litM hs false) (0, 0) (2 * gs.length, 2 * (gs.length + j))
  | 0, _ => lit_walk gs hs true hg hh hl he gs.length (Nat.le_refl _)
  | j + 1, h => by
    refine reaches_snoc (lit_run gs hs hg hh hl he j (by omega)) ?_
    have h2 : gs.length + j < hs.length := by omega
    rw [mem_succs]
    simp only [show 2 * gs.length / 2 = gs.length from by omega, show 2 * (gs.length + j) / 2 = gs.length + j from by omega]
    refine .inr (.inr ⟨⟨lit_tk_star gs, lit_tk hs hh false _ h2, ?_⟩, ?_⟩)
    · rw [lit_set_star, lit_set hs false _ h2]
      exact meet_cls (hh _ (List.getElem_mem h2))
    · rw [lit_taken_star, lit_taken hs hh false _ h2]
      rfl

def wantB (gs hs : List Nat) (star : Bool) : Bool := if star then decide (gs.length ≤ hs.length ∧ gs = hs.take gs.length) else decide (gs = hs)

theorem lit_law (gs hs : List Nat) (star : Bool) (hg : Abc gs) (hh : Abc hs) : Meet (litM gs star) (litM hs false) ↔ wantB gs hs star = true := by
  constructor
  · rintro ⟨q, ⟨k, hk⟩, f1, f2⟩
    have h0 : At gs hs star (0, 0) := ⟨0, 0, rfl, by omega, .inl ⟨rfl, by omega, by simp⟩⟩
    obtain ⟨i, j, rfl, hj, hp⟩ := closed_of (S := At gs hs star) (at_closed gs hs star hg hh) k _ _ h0 hk
    simp only [show 2 * i / 2 = i from by omega] at f1
    simp only [show 2 * j / 2 = j from by omega] at f2
    rw [lit_n] at f1 f2
    simp at f2
    cases star
    · simp at f1
      rcases hp with ⟨rfl, hi, he⟩ | ⟨h, _⟩
      · have hll : gs.length = hs.length := by omega
        rw [f1, List.take_length, hll, List.take_length] at he
        simp [wantB, he]
      · simp at h
    · simp at f1
      rcases hp with ⟨rfl, hi, he⟩ | ⟨_, h1, _, he⟩
      · omega
      · unfold wantB
        rw [if_pos rfl, decide_eq_true_eq]
        exact ⟨by omega, he⟩
  · intro h
    cases star
    · have he : gs = hs := by simpa [wantB] using h
      subst he
      refine ⟨_, lit_walk gs gs false hg hh (Nat.le_refl _) (by simp) gs.length (Nat.le_refl _), ?_, ?_⟩ <;> simp [lit_n]
    · have he : gs.length ≤ hs.length ∧ gs = hs.take gs.length := by simpa [wantB] using h
      obtain ⟨hl, he⟩ := he
      have hr := lit_run gs hs hg hh hl he (hs.length - gs.length) (by omega)
      rw [show gs.length + (hs.length - gs.length) = hs.length from by omega] at hr
      refine ⟨(2 * (gs.length + 1), 2 * hs.length), reaches_snoc hr ?_, ?_, ?_⟩
      · rw [mem_succs]
        exact .inl ⟨_, by rw [lit_to_star]; simp, rfl⟩
      · simp [lit_n]
      · simp [lit_n]

theorem lit_ok (gs : List Nat) (s : Bool) (hg : Abc gs) (h : gs.length ≤ 256) : (litM gs s).Ok := by
  have hst : ∀ i, i < (litM gs s).n → (∃ h : i < gs.length, (litM gs s).at i = ⟨0, gs[i], 0⟩) ∨ (s = true ∧ (litM gs s).at i = ⟨2, 0, 0⟩) := fun i hi => by
    by_cases hlt : i < gs.length
    · exact .inl ⟨hlt, lit_at gs s i hlt⟩
    · rw [lit_n] at hi
      cases s
      · simp at hi; omega
      · simp at hi
        obtain rfl : i = gs.length := by omega
        exact .inr ⟨rfl, lit_at_star gs⟩
  refine ⟨by rw [lit_n]; split <;> omega, fun i hi => ?_, fun i hi h0 => ?_, fun i hi h0 => ?_, fun i hi => ?_⟩
  · rcases hst i hi with ⟨h, e⟩ | ⟨_, e⟩ <;> rw [e] <;> simp
  · rcases hst i hi with ⟨h, e⟩ | ⟨_, e⟩ <;> rw [e] at h0 ⊢
    · exact .inr (hg _ (List.getElem_mem h))
    · simp at h0
  · rcases hst i hi with ⟨h, e⟩ | ⟨rfl, e⟩ <;> rw [e] at h0 ⊢
    · simp at h0
    · simp [litM]
  · cases s
    · simp [litM] at hi
    · simp [litM] at hi
      subst hi
      simp [litM, Mach.cls, clsC]

end Go.Proofs.Ybulkbeeu
