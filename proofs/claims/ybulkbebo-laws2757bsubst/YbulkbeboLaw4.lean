/- The reach loop in plain words, and the memory behind it. -/
import Derived.Test.YbulkbeboLaw3
import Derived.Test.YbulkbeboChk
namespace Go.Proofs.Ybulkbebo
open Go.RowKit
open Classical
attribute [local go_sem] neq_func75 neq_func76 neq_nil76 as45_45 as53_45 as63_45 as72_45 as45_63 as53_63 as63_63 as72_63 as45_72 as53_72 as63_72 as72_72 as45_95 as53_95 as63_95 as72_95 eql58_none eql58_some eql66_none eql66_some mkMap93 store_map
set_option linter.unusedSimpArgs false
set_option linter.unusedVariables false

def npZ (z : Zs) (i : Nat) : Nat := if kindZ z i = 2 then mZ z i else if kindZ z i = 3 then 2 * mZ z i else 0

theorem mZ_lt (z : Zs) (i : Nat) : mZ z i < 3 := by unfold mZ; omega
theorem npZ_kd {z : Zs} {i l : Nat} (h : l < npZ z i) : kdZ z i l < i := by
  refine kdZ_lt z i l (kindZ_pos z i ?_)
  unfold npZ at h
  by_cases h2 : kindZ z i = 2
  · exact .inl h2
  · rw [if_neg h2] at h
    by_cases h3 : kindZ z i = 3
    · exact .inr h3
    · rw [if_neg h3] at h; omega
theorem npZ_le (z : Zs) (i : Nat) : npZ z i ≤ 4 := by
  have := mZ_lt z i
  unfold npZ
  split
  · omega
  · split <;> omega

def Closed (z : Zs) (n : Nat) (P : Nat → Prop) : Prop := ∀ j l, j < n → l < npZ z j → P j → P (kdZ z j l)

/-- What the reach loop knows when all j from i on are done. -/
structure RchP (z : Zs) (use : Bool) (n i : Nat) (R : Nat → Bool) (wq : Nat → Nat) (wa : Nat) : Prop where
  root : R (n - 1) = true
  kids : ∀ j l, i ≤ j → j < n → R j = true → l < npZ z j → R (kdZ z j l) = true
  only : ∀ P : Nat → Prop, P (n - 1) → Closed z n P → ∀ c, c < n → R c = true → P c
  want : ∀ q, q < 3 → wq q = if use = true ∧ ∃ j, i ≤ j ∧ j < n ∧ R j = true ∧ kindZ z j = 1 ∧ pZ z j = q then 1 else 0
  wA : wa = sumTo (fun j => if i ≤ j ∧ R j = true ∧ kindZ z j = 3 then mZ z j else 0) n

structure RchI (z : Zs) (n i l : Nat) (R R' : Nat → Bool) : Prop where
  up : ∀ x, i ≤ x → R' x = R x
  mo : ∀ x, R x = true → R' x = true
  kd : ∀ k, k < l → R' (kdZ z i k) = true
  only : ∀ P : Nat → Prop, P (n - 1) → Closed z n P → ∀ c, c < n → R' c = true → P c

theorem rchI_init {z : Zs} {use : Bool} {n i i' : Nat} {R : Nat → Bool} {wq : Nat → Nat} {wa : Nat} (h : RchP z use n i' R wq wa) : RchI z n i 0 R R :=
  ⟨fun _ _ => rfl, fun _ e => e, fun _ hk => by omega, h.only⟩

theorem RchI.step {z : Zs} {n i l : Nat} {R R' : Nat → Bool} (h : RchI z n i l R R') (hi : i < n) (hR : R i = true) (hl : l < npZ z i) (c : Nat) (hc : kdZ z i l = c) : RchI z n i (l + 1) R (updB R' c true) := by
  have hlt := npZ_kd hl
  rw [hc] at hlt
  refine ⟨fun x hx => ?_, fun x hx => ?_, fun k hk => ?_, fun P h1 h2 x hx hR' => ?_⟩
  · unfold updB; rw [if_neg (by omega)]; exact h.up x hx
  · unfold updB
    split
    · rfl
    · exact h.mo x hx
  · unfold updB
    split
    · rfl
    · by_cases e : k = l
      · subst e; contradiction
      · exact h.kd k (by omega)
  · unfold updB at hR'
    by_cases e : x = c
    · subst e
      rw [← hc]
      exact h2 i l hi hl (h.only P h1 h2 i hi (h.mo i hR))
    · rw [if_neg e] at hR'
      exact h.only P h1 h2 x hx hR'

theorem rchP_next {z : Zs} {use : Bool} {n i : Nat} {R R' : Nat → Bool} {wq wq' : Nat → Nat} {wa wa' : Nat} (h : RchP z use n (i + 1) R wq wa) (hi : i < n) (hR : R i = true) (hI : RchI z n i (npZ z i) R R')
    (hq : ∀ q, q < 3 → wq' q = if use = true ∧ kindZ z i = 1 ∧ pZ z i = q then 1 else wq q) (ha : wa' = wa + if kindZ z i = 3 then mZ z i else 0) : RchP z use n i R' wq' wa' := by
  have hRi : R' i = true := (hI.up i (Nat.le_refl _)).trans hR
  refine ⟨hI.mo _ h.root, fun j l hj hn hj' hl => ?_, hI.only, fun q hq3 => ?_, ?_⟩
  · by_cases e : j = i
    · subst e; exact hI.kd l hl
    · have : R j = true := (hI.up j hj).symm.trans hj'
      exact hI.mo _ (h.kids j l (by omega) hn this hl)
  · rw [hq q hq3, h.want q hq3]
    by_cases hu : use = true
    · by_cases h1 : kindZ z i = 1 ∧ pZ z i = q
      · rw [if_pos ⟨hu, h1⟩, if_pos ⟨hu, i, Nat.le_refl _, hi, hRi, h1⟩]
      · rw [if_neg (fun e => h1 e.2)]
        by_cases h2 : ∃ j, i + 1 ≤ j ∧ j < n ∧ R j = true ∧ kindZ z j = 1 ∧ pZ z j = q
        · rw [if_pos ⟨hu, h2⟩]
          obtain ⟨j, a, b, c, d⟩ := h2
          rw [if_pos ⟨hu, j, by omega, b, (hI.up j (by omega)).trans c, d⟩]
        · rw [if_neg (fun e => h2 e.2), if_neg]
          rintro ⟨_, j, a, b, c, d⟩
          by_cases e : j = i
          · subst e; exact h1 d
          · exact h2 ⟨j, by omega, b, (hI.up j a).symm.trans c, d⟩
    · rw [if_neg (fun e => hu e.1), if_neg (fun e => hu e.1), if_neg (fun e => hu e.1)]
  · have key := sumTo_point (f := fun j => if i ≤ j ∧ R' j = true ∧ kindZ z j = 3 then mZ z j else 0) (g := fun j => if i + 1 ≤ j ∧ R j = true ∧ kindZ z j = 3 then mZ z j else 0) (s := i) (fun j hj => by
      by_cases hlt : i < j
      · have e1 : (i ≤ j ∧ R' j = true ∧ kindZ z j = 3) ↔ (i + 1 ≤ j ∧ R j = true ∧ kindZ z j = 3) := by rw [hI.up j (by omega)]; constructor <;> (rintro ⟨a, b⟩; exact ⟨by omega, b⟩)
        simp only [e1]
      · rw [if_neg (fun e => by have := e.1; omega), if_neg (fun e => by have := e.1; omega)]) (n := n) hi
    rw [if_neg (fun e : i + 1 ≤ i ∧ _ => by have := e.1; omega)] at key
    have e2 : (if i ≤ i ∧ R' i = true ∧ kindZ z i = 3 then mZ z i else 0) = if kindZ z i = 3 then mZ z i else 0 := by
      by_cases e : kindZ z i = 3
      · rw [if_pos ⟨Nat.le_refl _, hRi, e⟩, if_pos e]
      · rw [if_neg (fun q => e q.2.2), if_neg e]
    rw [e2, ← h.wA] at key
    omega

theorem rchP_skip {z : Zs} {use : Bool} {n i : Nat} {R : Nat → Bool} {wq : Nat → Nat} {wa : Nat} (h : RchP z use n (i + 1) R wq wa) (hi : i < n) (hR : R i = false) : RchP z use n i R wq wa := by
  have hne : ∀ j, i ≤ j → R j = true → i + 1 ≤ j := fun j hj e => by
    by_cases q : j = i
    · subst q; rw [hR] at e; cases e
    · omega
  refine ⟨h.root, fun j l hj hn hj' hl => h.kids j l (hne j hj hj') hn hj' hl, h.only, fun q hq => ?_, ?_⟩
  · rw [h.want q hq]
    have e1 : (∃ j, i ≤ j ∧ j < n ∧ R j = true ∧ kindZ z j = 1 ∧ pZ z j = q) ↔ (∃ j, i + 1 ≤ j ∧ j < n ∧ R j = true ∧ kindZ z j = 1 ∧ pZ z j = q) := by
      constructor
      · rintro ⟨j, a, b, c, d⟩; exact ⟨j, hne j a c, b, c, d⟩
      · rintro ⟨j, a, b, c, d⟩; exact ⟨j, by omega, b, c, d⟩
    simp only [e1]
  · rw [h.wA]
    refine sumTo_congr (fun j _ => ?_)
    have e1 : (i ≤ j ∧ R j = true ∧ kindZ z j = 3) ↔ (i + 1 ≤ j ∧ R j = true ∧ kindZ z j = 3) := by
      constructor
      · rintro ⟨a, b, c⟩; exact ⟨hne j a b, b, c⟩
      · rintro ⟨a, b, c⟩; exact ⟨by omega, b, c⟩
    simp only [e1]

theorem rchP_init (z : Zs) (use : Bool) (n : Nat) : RchP z use n n (updB (fun _ => false) (n - 1) true) (fun _ => 0) 0 := by
  refine ⟨updB_same _ _ _, fun j l hj hn => by omega, fun P h1 _ c hc e => ?_, fun q _ => ?_, ?_⟩
  · unfold updB at e
    by_cases q : c = n - 1
    · subst q; exact h1
    · rw [if_neg q] at e; cases e
  · rw [if_neg]
    rintro ⟨_, j, a, b, _⟩
    omega
  · have h : sumTo (fun j => if n ≤ j ∧ updB (fun _ => false) (n - 1) true j = true ∧ kindZ z j = 3 then mZ z j else 0) n = sumTo (fun _ => 0) n := sumTo_congr (fun j hj => if_neg (fun q => by have := q.1; omega))
    have := sumTo_bound (f := fun _ => 0) (c := 0) (fun _ => Nat.le_refl _) n
    omega

theorem RchP.wa_le {z : Zs} {use : Bool} {n i : Nat} {R : Nat → Bool} {wq : Nat → Nat} {wa : Nat} (h : RchP z use n i R wq wa) : wa ≤ 2 * n := by
  rw [h.wA]
  refine sumTo_bound (fun j => ?_) n
  have := mZ_lt z j
  split <;> omega

/-- The rows of the reach loop. -/
structure RchM (n : Nat) (w1 w : World) (rb wb : Nat) (R : Nat → Bool) (wq : Nat → Nat) : Prop where
  g : Grw None' w1 w
  rr : w.rowIs rb 4 n (fun x => .bool (R x))
  rq : w.rowIs wb 3 3 (fun q => .int .i64 (wq q : Int))
  b1 : w1.heap.size ≤ rb
  b2 : w1.heap.size ≤ wb
  ne : rb ≠ wb

theorem RchM.setR {n : Nat} {w1 w : World} {rb wb : Nat} {R : Nat → Bool} {wq : Nat → Nat} (h : RchM n w1 w rb wb R wq) (c : Nat) : RchM n w1 (w.setCell ⟨rb, c, none⟩ (.bool true)) rb wb (updB R c true) wq :=
  ⟨h.g.setCell (a := ⟨rb, c, none⟩) (fun e => by have := h.b1; simp only at e; omega) _, (h.rr.set c _).congr (fun j _ => by unfold updB; by_cases e : j = c <;> simp [e]), h.rq.setOther (a := ⟨rb, c, none⟩) (fun e => h.ne e.symm) _, h.b1, h.b2, h.ne⟩

theorem RchM.setW {n : Nat} {w1 w : World} {rb wb : Nat} {R : Nat → Bool} {wq : Nat → Nat} (h : RchM n w1 w rb wb R wq) (c : Nat) : RchM n w1 (w.setCell ⟨wb, c, none⟩ (.int .i64 1)) rb wb R (fun q => if q = c then 1 else wq q) :=
  ⟨h.g.setCell (a := ⟨wb, c, none⟩) (fun e => by have := h.b2; simp only at e; omega) _, h.rr.setOther (a := ⟨wb, c, none⟩) h.ne _, (h.rq.set c _).congr (fun j _ => by by_cases e : j = c <;> simp [e]), h.b1, h.b2, h.ne⟩

theorem rchM_init (w : World) (n N : Nat) (hN : N < n) (rb wb : Nat) (h1 : w.heap.size = rb) (h2 : rb + 1 = wb) : RchM n w ((w.alloc (.cells ((madeCells #[.bool false] n).setIfInBounds N (.bool true)) 4)).alloc (.cells #[.int .i64 0, .int .i64 0, .int .i64 0] 3)) rb wb (updB (fun _ => false) N true) (fun _ => 0) := by
  subst h1 h2
  have s1 : (w.alloc (.cells ((madeCells #[.bool false] n).setIfInBounds N (.bool true)) 4)).heap.size = w.heap.size + 1 := by simp only [World.alloc, Array.size_push]
  have hr := heap_alloc_new w (.cells ((madeCells #[.bool false] n).setIfInBounds N (.bool true)) 4)
  have hq := heap_alloc_new (w.alloc (.cells ((madeCells #[.bool false] n).setIfInBounds N (.bool true)) 4)) (.cells #[.int .i64 0, .int .i64 0, .int .i64 0] 3)
  rw [s1] at hq
  have r1 : (w.alloc (.cells ((madeCells #[.bool false] n).setIfInBounds N (.bool true)) 4)).rowIs w.heap.size 4 n (fun x => .bool (updB (fun _ => false) N true x)) := by
    refine ⟨_, hr, by rw [Array.size_setIfInBounds]; exact size_madeCells _ _, fun i hi => ?_⟩
    unfold updB
    by_cases e : i = N
    · subst e
      rw [Array.getElem?_setIfInBounds_self_of_lt (by rw [size_madeCells]; simpa using hi)]
      simp
    · rw [Array.getElem?_setIfInBounds_ne (by omega)]
      simp [madeCells, hi, Nat.mod_one, e]
  refine ⟨((Grw.refl _ w).alloc _).alloc _, r1.alloc _, ⟨_, hq, rfl, fun q hq => ?_⟩, Nat.le_refl _, by omega, by omega⟩
  rcases (by omega : q = 0 ∨ q = 1 ∨ q = 2) with rfl | rfl | rfl <;> rfl

def RcR (z : Zs) (use : Bool) (n : Nat) (w1 : World) (rb wb : Nat) (g : Nat) (vi va : Value) (wr : World) : Prop :=
  ∃ (i : Nat) (R : Nat → Bool) (wq : Nat → Nat) (wa : Nat), i ≤ n ∧ g = i ∧ vi = .int .i64 ((i : Int) - 1) ∧ va = .int .i64 (wa : Int) ∧ RchP z use n i R wq wa ∧ RchM n w1 wr rb wb R wq

def RiR (z : Zs) (n i : Nat) (w1 : World) (rb wb : Nat) (R : Nat → Bool) (wq : Nat → Nat) (g : Nat) (vl : Value) (wr : World) : Prop :=
  ∃ l R', l ≤ npZ z i ∧ g = npZ z i - l ∧ vl = .int .i64 (l : Int) ∧ RchI z n i l R R' ∧ RchM n w1 wr rb wb R' wq

/-- The whole: with the counters. -/
def envF (B : Bk) (z : Zs) (use : Bool) (n : Nat) (tv : Nat → Ky) (has : Nat → Bool) (sz cv cr ac : Nat) : Env := { envB B z use n tv has sz with cv := cv, cr := cr, ac := ac }

theorem envF_ok {B : Bk} {z : Zs} {use : Bool} {n : Nat} {tv : Nat → Ky} {has : Nat → Bool} {sz : Nat} (cv cr ac : Nat) (ok : (envB B z use n tv has sz).OK) : (envF B z use n tv has sz cv cr ac).OK :=
  ⟨ok.nb, ok.kdlt, ok.mle, ok.plt, ok.k4, ok.t0, ok.t1, ok.t2, ok.t3, ok.inj, ok.pinj, ok.hs, ok.tB⟩

theorem rch_counts {B : Bk} {z : Zs} {use : Bool} {n : Nat} {tv : Nat → Ky} {has : Nat → Bool} {sz cv cr ac : Nat} {R : Nat → Bool} {wq : Nat → Nat} {wa : Nat} {D : List (Ky × Ky)} {F : Nat → Prop} {w : World}
    (ok : (envF B z use n tv has sz cv cr ac).OK) (hP : RchP z use n 0 R wq wa) (hd : isD D (tv (n - 1))) (good : Good (envF B z use n tv has sz cv cr ac) F w D) (hk : ∀ p, p ∈ D → ∃ i, i < n ∧ R i = true ∧ p.1 = tv i) :
    (∀ q, q < 3 → clD (envF B z use n tv has sz cv cr ac) D q = (wq q : Int)) ∧ cntD (envF B z use n tv has sz cv cr ac) D = wa := by
  have fwd : ∀ c, c < n → R c = true → isD D (tv c) := fun c hc hR => hP.only (fun c => c < n → isD D (tv c)) (fun _ => hd) (fun j l hj hl hp _ => (good j hj _ (hp hj).img).2 l hl) c hc hR hc
  have bwd : ∀ c, c < n → isD D (tv c) → ∃ i, i < n ∧ R i = true ∧ tv c = tv i := fun c hc ⟨u, hu⟩ => by
    obtain ⟨i, a, b, e⟩ := hk _ (lk_mem hu)
    exact ⟨i, a, b, e⟩
  constructor
  · intro q hq
    rw [hP.want q hq]
    have e1 : (use = true ∧ ∃ i, i < n ∧ kindZ z i = 1 ∧ pZ z i = q ∧ isD D (tv i)) ↔ (use = true ∧ ∃ j, 0 ≤ j ∧ j < n ∧ R j = true ∧ kindZ z j = 1 ∧ pZ z j = q) := by
      refine and_congr_right (fun _ => ⟨?_, ?_⟩)
      · rintro ⟨i, a, b, c, d⟩
        obtain ⟨j, a', b', e⟩ := bwd i a d
        rcases ok.inj i j a a' e with rfl | ⟨k1, k2⟩
        · exact ⟨i, by omega, a, b', b, c⟩
        · have e2 := e
          have t1 : tv i = ⟨45, B.S + pZ z i⟩ := ok.t1 i a k1
          have t2 : tv j = ⟨45, B.S + pZ z j⟩ := ok.t1 j a' k2
          rw [t1, t2] at e2
          injection e2 with _ e2
          exact ⟨j, by omega, a', b', k2, by omega⟩
      · rintro ⟨j, _, a, b, c, d⟩
        exact ⟨j, a, c, d, fwd j a b⟩
    rw [clD_eq]
    show (if use = true ∧ ∃ i, i < n ∧ kindZ z i = 1 ∧ pZ z i = q ∧ isD D (tv i) then (1 : Int) else 0) = _
    by_cases h : use = true ∧ ∃ j, 0 ≤ j ∧ j < n ∧ R j = true ∧ kindZ z j = 1 ∧ pZ z j = q
    · rw [if_pos (e1.2 h), if_pos h]; rfl
    · rw [if_neg (fun q => h (e1.1 q)), if_neg h]; rfl
  · rw [hP.wA, cntD_eq]
    show sumTo (fun i => if kindZ z i = 3 ∧ isD D (tv i) then mZ z i else 0) n = _
    refine sumTo_congr (fun i hi => ?_)
    have e1 : (kindZ z i = 3 ∧ isD D (tv i)) ↔ (0 ≤ i ∧ R i = true ∧ kindZ z i = 3) := by
      constructor
      · rintro ⟨a, b⟩
        obtain ⟨j, a', b', e⟩ := bwd i hi b
        rcases ok.inj i j hi a' e with rfl | ⟨k1, k2⟩
        · exact ⟨by omega, b', a⟩
        · have k3 : kindZ z i = 1 := k1
          omega
      · rintro ⟨_, a, b⟩
        exact ⟨b, fwd i hi a⟩
    simp only [e1]

/-- The memory ahead of Apply's call. -/
theorem dagF {B : Bk} {z : Zs} {use : Bool} {n : Nat} {w0 wB wA : World} {tv : Nat → Ky} {has : Nat → Bool} {kv : Nat → Value} (b : BIn B z use n n w0 wB tv has kv) (g : Grw None' wB wA) (cv cr ac : Nat) (hcv : wA.cell? ⟨cv, 0, none⟩ = some (.slice (some ⟨cr, 0, none⟩) 3 3)) :
    DagIn (envF B z use n tv has wB.heap.size cv cr ac) (fun j => FB B wB.heap.size j ∨ j = cv) wA := by
  have d := b.dag.kp (g.kp (fun j hj => ⟨hj.1, fun e => e⟩)) (F' := fun j => FB B wB.heap.size j ∨ j = cv) (fun j hj => .inl hj)
  exact ⟨d.node, d.nam, d.str, d.pool, d.fpool, d.tgt, d.ftgt, hcv, .inr rfl⟩

/-- The memory ahead of the check's call. -/
theorem ciF {B : Bk} {z : Zs} {use : Bool} {n : Nat} {w0 wB w3 w4 : World} {tv : Nat → Ky} {has : Nat → Bool} {kv : Nat → Value} {cv cr ac : Nat} {F : Nat → Prop} {D : List (Ky × Ky)} (bo : BkOK B) (b : BIn B z use n n w0 wB tv has kv) (g3 : Grw None' wB w3)
    (dag : DagIn (envF B z use n tv has wB.heap.size cv cr ac) F w3) (good : Good (envF B z use n tv has wB.heap.size cv cr ac) F w3 D) (flt : ∀ j, F j → j < w3.heap.size)
    (g4 : Grw None' w3 w4) (sb mb nb : Nat) (hm : w4.rowIs mb 49 n (fun _ => .nilIface)) (hn : w4.rowIs nb 4 n (fun _ => .bool false)) (h1 : w3.heap.size ≤ mb) (h2 : w3.heap.size ≤ nb) (h3 : w3.heap.size ≤ sb) (h4 : sb < w4.heap.size) (ne1 : mb ≠ nb) (ne2 : sb ≠ mb) (ne3 : sb ≠ nb)
    (hs : w4.heap[sb]? = some (.cells #[.slice (some ⟨B.tb, 0, none⟩) n n, .slice (some ⟨B.kb, 0, none⟩) n n, .slice (some ⟨B.pb, 0, none⟩) n n, .slice (some ⟨B.cb, 0, none⟩) n n, .slice (some ⟨B.hb, 0, none⟩) n n, .bool use, .slice (some ⟨B.gr, 0, none⟩) 3 3, .slice (some ⟨mb, 0, none⟩) n n, .slice (some ⟨nb, 0, none⟩) n n] 83 (0, 0))) :
    CI (envF B z use n tv has wB.heap.size cv cr ac) ⟨sb, B.tb, B.kb, B.pb, B.cb, B.hb, mb, nb⟩ (fun j => j < w3.heap.size ∨ j = sb) D w4 := by
  have kp : Kp F w3 w4 := g4.kp (fun j hj => ⟨flt j hj, fun e => e⟩)
  have toF : ∀ j, F j → (j < w3.heap.size ∨ j = sb) := fun j hj => .inl (flt j hj)
  have gg : Grw None' wB w4 := g3.trans g4
  have q1 := bo.tb; have q2 := bo.kb; have q3 := bo.pb; have q4 := bo.cb; have q5 := bo.hb
  have s1 := b.s1
  have s3 := g3.size
  have s4 := g4.size
  have c := fun (o : Nat) => cell_of_row w4 sb o _ _ (0, 0) hs
  refine ⟨dag.kp kp toF, good.kp kp toF, ⟨⟨.inr rfl, .inl (by show B.tb < _; omega), .inl (by show B.kb < _; omega), .inl (by show B.pb < _; omega), .inl (by show B.cb < _; omega), .inl (by show B.hb < _; omega)⟩, (c 0).trans rfl, (c 1).trans rfl, (c 2).trans rfl, (c 3).trans rfl, (c 4).trans rfl, (c 5).trans rfl, (c 6).trans rfl, (c 7).trans rfl, (c 8).trans rfl, fun i hi => ?_, fun i hi => ?_, fun i hi e => ?_, fun i hi => ?_, fun i hi => ⟨kv i, ?_, ?_⟩⟩, ⟨fun _ => false, fun _ => .nilIface, fun i hi => ⟨hn.cell hi, hn.frozen i, hm.cell hi, hm.frozen i⟩, fun i hi e => by cases e⟩, ?_, ?_, ?_, ne1⟩
  · have := b.rt.cell (i := i) hi
    rw [if_pos (show i < n from hi)] at this
    exact gg.cellOf this (fun e => e)
  · have := b.rk.cell (i := i) hi
    rw [if_pos (show i < n from hi)] at this
    exact gg.cellOf this (fun e => e)
  · have := b.rp.cell (i := i) hi
    rw [if_pos ⟨(show i < n from hi), e⟩] at this
    exact gg.cellOf this (fun e => e)
  · have := b.rh.cell (i := i) hi
    rw [if_pos (show i < n from hi)] at this
    exact gg.cellOf this (fun e => e)
  · have := b.rc.cell (i := i) hi
    rw [if_pos (show i < n from hi)] at this
    exact gg.cellOf this (fun e => e)
  · exact (b.ck i hi).kp (gg.kp (fun j hj => ⟨hj.1, fun e => e⟩)) (fun j hj => .inl (Nat.lt_of_lt_of_le hj.1 s3))
  · rintro j (hj | rfl)
    · omega
    · exact h4
  · rintro (e | e)
    · simp only at e; omega
    · exact ne2 e.symm
  · rintro (e | e)
    · simp only at e; omega
    · exact ne3 e.symm
end Go.Proofs.Ybulkbebo
