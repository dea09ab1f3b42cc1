/- The types of the script, and what Apply has done so far. -/
import Derived.Test.YbulkbeboPush
namespace Go.Proofs.Ybulkbebo
open Go.RowKit
open Classical
attribute [local go_sem] neq_func75 neq_func76 neq_nil76 as45_45 as53_45 as63_45 as72_45 as45_63 as53_63 as63_63 as72_63 as45_72 as53_72 as63_72 as72_72 as45_95 as53_95 as63_95 as72_95 eql58_none eql58_some eql66_none eql66_some
set_option linter.unusedSimpArgs false
set_option linter.unusedVariables false

structure Env where
  n : Nat
  kind : Nat → Nat
  pidx : Nat → Nat
  m : Nat → Nat
  kd : Nat → Nat → Nat
  has : Nat → Bool
  use : Bool
  tv : Nat → Ky
  pool : Nat → Nat
  tgt : Nat → Nat
  pv : Nat
  pr : Nat
  cv : Nat
  cr : Nat
  gv : Nat
  gr : Nat
  ac : Nat
  B : Nat

def Env.np (E : Env) (i : Nat) : Nat := if E.kind i = 2 then E.m i else if E.kind i = 3 then 2 * E.m i else 0

structure Env.OK (E : Env) : Prop where
  nb : E.n ≤ 256
  kdlt : ∀ i j, i < E.n → j < E.np i → E.kd i j < i
  mle : ∀ i, i < E.n → E.m i ≤ 2
  plt : ∀ i, i < E.n → E.kind i = 1 → E.pidx i < 3
  k4 : ∀ i, i < E.n → E.kind i < 4
  t0 : ∀ i, i < E.n → E.kind i = 0 → (E.tv i).t = 53
  t1 : ∀ i, i < E.n → E.kind i = 1 → E.tv i = ⟨45, E.pool (E.pidx i)⟩
  t2 : ∀ i, i < E.n → E.kind i = 2 → (E.tv i).t = 63
  t3 : ∀ i, i < E.n → E.kind i = 3 → (E.tv i).t = 72
  inj : ∀ i j, i < E.n → j < E.n → E.tv i = E.tv j → i = j ∨ (E.kind i = 1 ∧ E.kind j = 1)
  pinj : ∀ i j, i < 3 → j < 3 → E.pool i = E.pool j → i = j
  hs : ∀ i, i < E.n → (E.has i = true ↔ E.kind i = 1 ∨ ∃ j, j < E.np i ∧ E.has (E.kd i j) = true)
  tB : ∀ i, i < E.n → (E.tv i).b < E.B

theorem Env.OK.ok {E : Env} (h : E.OK) (i : Nat) (hi : i < E.n) : (E.tv i).ok := by
  have h4 := h.k4 i hi
  unfold Ky.ok
  rcases (by omega : E.kind i = 0 ∨ E.kind i = 1 ∨ E.kind i = 2 ∨ E.kind i = 3) with e | e | e | e
  · exact .inr (.inl (h.t0 i hi e))
  · exact .inl (by rw [h.t1 i hi e])
  · exact .inr (.inr (.inl (h.t2 i hi e)))
  · exact .inr (.inr (.inr (h.t3 i hi e)))

theorem Env.OK.kid {E : Env} (h : E.OK) {i j : Nat} (hi : i < E.n) (hj : j < E.np i) : E.kd i j < E.n := by
  have := h.kdlt i j hi hj; omega

theorem Env.np2 {E : Env} {i : Nat} (h : E.kind i = 2) : E.np i = E.m i := by unfold Env.np; rw [if_pos h]
theorem Env.np3 {E : Env} {i : Nat} (h : E.kind i = 3) : E.np i = 2 * E.m i := by unfold Env.np; rw [if_neg (by omega), if_pos h]
theorem Env.np0 {E : Env} {i : Nat} (h : E.kind i = 0 ∨ E.kind i = 1) : E.np i = 0 := by unfold Env.np; rw [if_neg (by omega), if_neg (by omega)]
theorem Env.OK.np4 {E : Env} (h : E.OK) {i : Nat} (hi : i < E.n) : E.np i ≤ 4 := by
  have := h.mle i hi
  unfold Env.np
  split
  · omega
  · split <;> omega

structure DagIn (E : Env) (F : Nat → Prop) (w : World) : Prop where
  node : ∀ i, i < E.n → F (E.tv i).b ∧ Plain w (E.tv i).b
  nam : ∀ i, i < E.n → E.kind i = 2 → NamedK F w (E.tv i).b (E.m i) (fun j => E.tv (E.kd i j))
  str : ∀ i, i < E.n → E.kind i = 3 → StructK F w (E.tv i).b (E.m i) (fun j => E.tv (E.kd i (2 * j))) (fun j => E.tv (E.kd i (2 * j + 1)))
  pool : Three w E.pv E.pr (fun i => fp (E.pool i))
  fpool : F E.pv ∧ F E.pr ∧ ∀ i, i < 3 → F (E.pool i) ∧ Plain w (E.pool i)
  tgt : Three w E.gv E.gr (fun i => fp (E.tgt i))
  ftgt : F E.gv ∧ F E.gr ∧ ∀ i, i < 3 → F (E.tgt i) ∧ Plain w (E.tgt i)
  cv : w.cell? ⟨E.cv, 0, none⟩ = some (.slice (some ⟨E.cr, 0, none⟩) 3 3)
  fcv : F E.cv

theorem Three.kp {F : Nat → Prop} {w w' : World} {v r : Nat} {f : Nat → Value} (h : Three w v r f) (k : Kp F w w') (hv : F v) (hr : F r) : Three w' v r f :=
  ⟨(cell_same (k v hv) 0).trans h.c, fun i hi => (cell_same (k r hr) i).trans (h.e i hi)⟩

theorem DagIn.kp {E : Env} {F F' : Nat → Prop} {w w' : World} (h : DagIn E F w) (k : Kp F w w') (hF : ∀ j, F j → F' j) : DagIn E F' w' :=
  ⟨fun i hi => ⟨hF _ (h.node i hi).1, (h.node i hi).2.same (k _ (h.node i hi).1)⟩, fun i hi e => (h.nam i hi e).kp k hF, fun i hi e => (h.str i hi e).kp k hF,
   h.pool.kp k h.fpool.1 h.fpool.2.1, ⟨hF _ h.fpool.1, hF _ h.fpool.2.1, fun i hi => ⟨hF _ (h.fpool.2.2 i hi).1, (h.fpool.2.2 i hi).2.same (k _ (h.fpool.2.2 i hi).1)⟩⟩,
   h.tgt.kp k h.ftgt.1 h.ftgt.2.1, ⟨hF _ h.ftgt.1, hF _ h.ftgt.2.1, fun i hi => ⟨hF _ (h.ftgt.2.2 i hi).1, (h.ftgt.2.2 i hi).2.same (k _ (h.ftgt.2.2 i hi).1)⟩⟩,
   (cell_same (k _ h.fcv) 0).trans h.cv, hF _ h.fcv⟩

def rr (D : List (Ky × Ky)) (k : Ky) : Ky := (lk D k).getD k
def isD (D : List (Ky × Ky)) (k : Ky) : Prop := ∃ u, lk D k = some u

theorem isD.img {D : List (Ky × Ky)} {k : Ky} (h : isD D k) : lk D k = some (rr D k) := by
  obtain ⟨u, h⟩ := h
  unfold rr
  rw [h]; rfl

structure Res (E : Env) (F : Nat → Prop) (w : World) (D : List (Ky × Ky)) (i : Nat) (k : Ky) : Prop where
  same : (E.use = false ∨ E.has i = false) → k = E.tv i
  par : E.use = true → E.kind i = 1 → k = ⟨53, E.tgt (E.pidx i)⟩
  nam : E.use = true → E.has i = true → E.kind i = 2 → k.t = 63 ∧ E.B ≤ k.b ∧ NamedK F w k.b (E.m i) (fun j => rr D (E.tv (E.kd i j)))
  str : E.use = true → E.has i = true → E.kind i = 3 → k.t = 72 ∧ E.B ≤ k.b ∧ StructK F w k.b (E.m i) (fun j => rr D (E.tv (E.kd i (2 * j)))) (fun j => rr D (E.tv (E.kd i (2 * j + 1))))
  ok : k.ok
  pl : F k.b ∧ Plain w k.b

theorem Res.kp {E : Env} {F F' : Nat → Prop} {w w' : World} {D : List (Ky × Ky)} {i : Nat} {k : Ky} (h : Res E F w D i k) (q : Kp F w w') (hF : ∀ j, F j → F' j) : Res E F' w' D i k :=
  ⟨h.same, h.par, fun a b c => ⟨(h.nam a b c).1, (h.nam a b c).2.1, (h.nam a b c).2.2.kp q hF⟩, fun a b c => ⟨(h.str a b c).1, (h.str a b c).2.1, (h.str a b c).2.2.kp q hF⟩, h.ok, hF _ h.pl.1, h.pl.2.same (q _ h.pl.1)⟩

def Good (E : Env) (F : Nat → Prop) (w : World) (D : List (Ky × Ky)) : Prop :=
  ∀ i, i < E.n → ∀ k, lk D (E.tv i) = some k → Res E F w D i k ∧ ∀ j, j < E.np i → isD D (E.tv (E.kd i j))

theorem Good.kp {E : Env} {F F' : Nat → Prop} {w w' : World} {D : List (Ky × Ky)} (h : Good E F w D) (q : Kp F w w') (hF : ∀ j, F j → F' j) : Good E F' w' D :=
  fun i hi k hk => ⟨(h i hi k hk).1.kp q hF, (h i hi k hk).2⟩

/-- A type that holds a parameter is changed, and no other. -/
theorem Good.ch {E : Env} (ok : E.OK) {F : Nat → Prop} {w : World} {D : List (Ky × Ky)} (h : Good E F w D) (i : Nat) (hi : i < E.n) (hd : isD D (E.tv i)) : rr D (E.tv i) ≠ E.tv i ↔ (E.use = true ∧ E.has i = true) := by
  obtain ⟨r, _⟩ := h i hi _ hd.img
  constructor
  · intro hne
    by_cases h1 : E.use = true
    · by_cases h2 : E.has i = true
      · exact ⟨h1, h2⟩
      · exact absurd (r.same (.inr (by simpa using h2))) hne
    · exact absurd (r.same (.inl (by simpa using h1))) hne
  · rintro ⟨h1, h2⟩ e
    have h4 := ok.k4 i hi
    have hB := ok.tB i hi
    rcases (by omega : E.kind i = 0 ∨ E.kind i = 1 ∨ E.kind i = 2 ∨ E.kind i = 3) with q | q | q | q
    · rcases (ok.hs i hi).1 h2 with h3 | ⟨j, hj, _⟩
      · omega
      · rw [Env.np0 (.inl q)] at hj; omega
    · have h3 := r.par h1 q
      rw [e, ok.t1 i hi q] at h3
      injection h3 with h3 _
      exact absurd h3 (by decide)
    · have h3 := (r.nam h1 h2 q).2.1
      rw [e] at h3
      omega
    · have h3 := (r.str h1 h2 q).2.1
      rw [e] at h3
      omega

theorem Good.kids {E : Env} (ok : E.OK) {F : Nat → Prop} {w : World} {D : List (Ky × Ky)} (h : Good E F w D) (i : Nat) (hi : i < E.n) (hk : E.kind i = 2 ∨ E.kind i = 3) (hd : ∀ j, j < E.np i → isD D (E.tv (E.kd i j))) :
    (∃ j, j < E.np i ∧ rr D (E.tv (E.kd i j)) ≠ E.tv (E.kd i j)) ↔ (E.use = true ∧ E.has i = true) := by
  constructor
  · rintro ⟨j, hj, hne⟩
    obtain ⟨h1, h2⟩ := (h.ch ok _ (ok.kid hi hj) (hd j hj)).1 hne
    exact ⟨h1, (ok.hs i hi).2 (.inr ⟨j, hj, h2⟩)⟩
  · rintro ⟨h1, h2⟩
    rcases (ok.hs i hi).1 h2 with h3 | ⟨j, hj, h3⟩
    · omega
    · exact ⟨j, hj, (h.ch ok _ (ok.kid hi hj) (hd j hj)).2 ⟨h1, h3⟩⟩

theorem lk_snoc {D : List (Ky × Ky)} {k s ks : Ky} : lk (D ++ [(s, ks)]) k = (lk D k).or (@ite _ (k = s) (Ky.dec k s) (some ks) none) := lk_append k (s, ks) D

theorem isD.snoc {D : List (Ky × Ky)} {k : Ky} (h : isD D k) (s ks : Ky) : isD (D ++ [(s, ks)]) k ∧ rr (D ++ [(s, ks)]) k = rr D k := by
  obtain ⟨u, h⟩ := h
  have e : lk (D ++ [(s, ks)]) k = some u := by rw [lk_snoc, h]; rfl
  refine ⟨⟨u, e⟩, ?_⟩
  unfold rr
  rw [e, h]

theorem Good.add {E : Env} (ok : E.OK) {F : Nat → Prop} {w : World} {D : List (Ky × Ky)} (h : Good E F w D) (s : Nat) (hs : s < E.n) (ks : Ky) (hn : lk D (E.tv s) = none) (hd : ∀ j, j < E.np s → isD D (E.tv (E.kd s j))) (hr : Res E F w D s ks) : Good E F w (D ++ [(E.tv s, ks)]) := by
  have cg : ∀ i k, i < E.n → (∀ j, j < E.np i → isD D (E.tv (E.kd i j))) → Res E F w D i k → Res E F w (D ++ [(E.tv s, ks)]) i k := fun i k hi hdi r => by
    refine ⟨r.same, r.par, fun a b c => ⟨(r.nam a b c).1, (r.nam a b c).2.1, (r.nam a b c).2.2.congr (fun j hj => ?_)⟩, fun a b c => ⟨(r.str a b c).1, (r.str a b c).2.1, (r.str a b c).2.2.congr (fun j hj => ⟨?_, ?_⟩)⟩, r.ok, r.pl⟩
    · exact ((hdi j (by rw [Env.np2 c]; exact hj)).snoc _ _).2.symm
    · exact ((hdi (2 * j) (by rw [Env.np3 c]; omega)).snoc _ _).2.symm
    · exact ((hdi (2 * j + 1) (by rw [Env.np3 c]; omega)).snoc _ _).2.symm
  intro i hi k hk
  rw [lk_snoc] at hk
  cases hD : lk D (E.tv i) with
  | some u =>
    rw [hD] at hk
    simp at hk
    subst hk
    obtain ⟨r, hdi⟩ := h i hi u hD
    exact ⟨cg i u hi hdi r, fun j hj => ((hdi j hj).snoc _ _).1⟩
  | none =>
    rw [hD] at hk
    simp only [Option.none_or] at hk
    by_cases e : E.tv i = E.tv s
    · rw [if_pos e] at hk
      injection hk with hk
      subst hk
      rcases ok.inj i s hi hs e with rfl | ⟨k1, k2⟩
      · exact ⟨cg i ks hi hd hr, fun j hj => ((hd j hj).snoc _ _).1⟩
      · have hp : E.pidx i = E.pidx s := by
          have e2 := e
          rw [ok.t1 i hi k1, ok.t1 s hs k2] at e2
          injection e2 with _ e2
          exact ok.pinj _ _ (ok.plt i hi k1) (ok.plt s hs k2) e2
        have hhi : E.has i = true := (ok.hs i hi).2 (.inl k1)
        have hn0 : E.np i = 0 := Env.np0 (.inr k1)
        refine ⟨⟨fun q => ?_, fun a _ => by rw [hp]; exact hr.par a k2, fun _ _ c => by omega, fun _ _ c => by omega, hr.ok, hr.pl⟩, fun j hj => by rw [hn0] at hj; omega⟩
        rcases q with q | q
        · rw [e]; exact hr.same (.inl q)
        · rw [hhi] at q; cases q
    · rw [if_neg e] at hk; cases hk
end Go.Proofs.Ybulkbebo
