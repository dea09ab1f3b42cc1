/- The script's nodes, in plain words; the memory while they are built. -/
import Derived.Test.YbulkbeboNode
namespace Go.Proofs.Ybulkbebo
open Go.RowKit
open Classical
attribute [local go_sem] neq_func75 neq_func76 neq_nil76 as45_45 as53_45 as63_45 as72_45 as45_63 as53_63 as63_63 as72_63 as45_72 as53_72 as63_72 as72_72 as45_95 as53_95 as63_95 as72_95 eql58_none eql58_some eql66_none eql66_some
set_option linter.unusedSimpArgs false
set_option linter.unusedVariables false

structure Zs where
  k : Nat → Nat
  a : Nat → Nat
  b : Nat → Nat
  c : Nat → Nat

def kindZ (z : Zs) (i : Nat) : Nat := if i = 0 ∧ 2 ≤ z.k i % 4 then 0 else z.k i % 4
def mZ (z : Zs) (i : Nat) : Nat := z.b i % 3
def pZ (z : Zs) (i : Nat) : Nat := z.a i % 3
def kdZ (z : Zs) (i j : Nat) : Nat := if kindZ z i = 2 then (z.a i + j * (z.c i + 1)) % i else if j % 2 = 0 then (z.a i + j / 2) % i else (z.c i + j / 2) % i

/-- The blocks that the law lays first. -/
structure Bk where
  S : Nat
  pv : Nat
  pr : Nat
  gv : Nat
  gr : Nat
  tb : Nat
  kb : Nat
  pb : Nat
  cb : Nat
  hb : Nat

structure BkOK (B : Bk) : Prop where
  pr : B.pr = B.S + 3
  pv : B.pv = B.S + 4
  gr : B.gr = B.S + 8
  gv : B.gv = B.S + 9
  tb : B.tb = B.S + 10
  kb : B.kb = B.S + 11
  pb : B.pb = B.S + 12
  cb : B.cb = B.S + 13
  hb : B.hb = B.S + 14

def envB (B : Bk) (z : Zs) (use : Bool) (i : Nat) (tv : Nat → Ky) (has : Nat → Bool) (sz : Nat) : Env where
  n := i
  kind := kindZ z
  pidx := pZ z
  m := mZ z
  kd := kdZ z
  has := has
  use := use
  tv := tv
  pool := fun q => B.S + q
  tgt := fun q => B.S + 5 + q
  pv := B.pv
  pr := B.pr
  cv := B.pv
  cr := B.pr
  gv := B.gv
  gr := B.gr
  ac := 0
  B := sz

theorem kindZ_lt (z : Zs) (i : Nat) : kindZ z i < 4 := by
  unfold kindZ
  split
  · omega
  · omega

theorem kindZ_pos (z : Zs) (i : Nat) (h : kindZ z i = 2 ∨ kindZ z i = 3) : 0 < i := by
  unfold kindZ at h
  split at h
  · omega
  · omega

theorem kdZ_lt (z : Zs) (i j : Nat) (h : 0 < i) : kdZ z i j < i := by
  unfold kdZ
  split
  · exact Nat.mod_lt _ h
  · split
    · exact Nat.mod_lt _ h
    · exact Nat.mod_lt _ h

theorem npB (B : Bk) (z : Zs) (use : Bool) (i i' : Nat) (tv tv' : Nat → Ky) (has has' : Nat → Bool) (sz sz' : Nat) (j : Nat) : (envB B z use i tv has sz).np j = (envB B z use i' tv' has' sz').np j := rfl

def updK (f : Nat → Ky) (i : Nat) (k : Ky) : Nat → Ky := fun j => if j = i then k else f j
def updB (f : Nat → Bool) (i : Nat) (b : Bool) : Nat → Bool := fun j => if j = i then b else f j
theorem updK_same (f : Nat → Ky) (i : Nat) (k : Ky) : updK f i k i = k := if_pos rfl
theorem updK_lt (f : Nat → Ky) {i j : Nat} (k : Ky) (h : j < i) : updK f i k j = f j := if_neg (by omega)
theorem updB_same (f : Nat → Bool) (i : Nat) (k : Bool) : updB f i k i = k := if_pos rfl
theorem updB_lt (f : Nat → Bool) {i j : Nat} (k : Bool) (h : j < i) : updB f i k j = f j := if_neg (by omega)

/-- Node i, made new. -/
structure NewN (B : Bk) (z : Zs) (i : Nat) (has : Nat → Bool) (old new : Nat) (k : Ky) (h : Bool) : Prop where
  t0 : kindZ z i = 0 → k.t = 53
  t1 : kindZ z i = 1 → k = ⟨45, B.S + pZ z i⟩
  t2 : kindZ z i = 2 → k.t = 63
  t3 : kindZ z i = 3 → k.t = 72
  fresh : kindZ z i ≠ 1 → old ≤ k.b
  lt : k.b < new
  hs : h = true ↔ kindZ z i = 1 ∨ ∃ j, j < (envB B z true 0 (fun _ => k) has 0).np i ∧ has (kdZ z i j) = true

theorem npB0 {B : Bk} {z : Zs} {use : Bool} {i : Nat} {tv : Nat → Ky} {has : Nat → Bool} {sz j l : Nat} (h : l < (envB B z use i tv has sz).np j) : kdZ z j l < j := by
  have hk : kindZ z j = 2 ∨ kindZ z j = 3 := by
    have h4 := kindZ_lt z j
    apply Classical.byContradiction
    intro hn
    have : (envB B z use i tv has sz).np j = 0 := Env.np0 (E := envB B z use i tv has sz) (by show kindZ z j = 0 ∨ kindZ z j = 1; omega)
    omega
  exact kdZ_lt z j l (kindZ_pos z j hk)

theorem envOK_succ {B : Bk} {z : Zs} {use : Bool} {i : Nat} {tv : Nat → Ky} {has : Nat → Bool} {old new : Nat} {k : Ky} {h : Bool} (hi : i < 256) (ok : (envB B z use i tv has old).OK) (hn : NewN B z i has old new k h) (hle : old ≤ new) :
    (envB B z use (i + 1) (updK tv i k) (updB has i h) new).OK := by
  have lt1 : ∀ {j}, j < i + 1 → j ≠ i → j < i := fun h1 h2 => by omega
  refine ⟨by show i + 1 ≤ 256; omega, fun j l hj hl => ?_, fun j _ => ?_, fun j _ _ => ?_, fun j _ => kindZ_lt z j, fun j hj e => ?_, fun j hj e => ?_, fun j hj e => ?_, fun j hj e => ?_, fun j l hj hl e => ?_, fun p q _ _ e => ?_, fun j hj => ?_, fun j hj => ?_⟩
  · exact npB0 hl
  · show mZ z j ≤ 2; unfold mZ; omega
  · show pZ z j < 3; unfold pZ; omega
  · show (updK tv i k j).t = 53
    by_cases q : j = i
    · subst q; rw [updK_same]; exact hn.t0 e
    · have := lt1 hj q; rw [updK_lt tv k this]; exact ok.t0 j this e
  · show updK tv i k j = ⟨45, B.S + pZ z j⟩
    by_cases q : j = i
    · subst q; rw [updK_same]; exact hn.t1 e
    · have := lt1 hj q; rw [updK_lt tv k this]; exact ok.t1 j this e
  · show (updK tv i k j).t = 63
    by_cases q : j = i
    · subst q; rw [updK_same]; exact hn.t2 e
    · have := lt1 hj q; rw [updK_lt tv k this]; exact ok.t2 j this e
  · show (updK tv i k j).t = 72
    by_cases q : j = i
    · subst q; rw [updK_same]; exact hn.t3 e
    · have := lt1 hj q; rw [updK_lt tv k this]; exact ok.t3 j this e
  · have e2 : updK tv i k j = updK tv i k l := e
    have key : ∀ l, l < i → k = tv l → kindZ z i = 1 ∧ kindZ z l = 1 := fun l hl e => by
      have hB : (tv l).b < old := ok.tB l hl
      have h1 : kindZ z i = 1 := Classical.byContradiction fun hne => by
        have := hn.fresh hne
        rw [e] at this
        omega
      refine ⟨h1, ?_⟩
      have h45 : (tv l).t = 45 := by rw [← e, hn.t1 h1]
      have h4 := kindZ_lt z l
      rcases (by omega : kindZ z l = 0 ∨ kindZ z l = 1 ∨ kindZ z l = 2 ∨ kindZ z l = 3) with q | q | q | q
      · have this : (tv l).t = 53 := ok.t0 l hl q
        rw [h45] at this; exact absurd this (by decide)
      · exact q
      · have this : (tv l).t = 63 := ok.t2 l hl q
        rw [h45] at this; exact absurd this (by decide)
      · have this : (tv l).t = 72 := ok.t3 l hl q
        rw [h45] at this; exact absurd this (by decide)
    by_cases q : j = i
    · by_cases q2 : l = i
      · exact .inl (by omega)
      · have hl2 := lt1 hl q2
        rw [q, updK_same, updK_lt tv k hl2] at e2
        obtain ⟨a1, a2⟩ := key l hl2 e2
        exact .inr ⟨by rw [q]; exact a1, a2⟩
    · have hj2 := lt1 hj q
      by_cases q2 : l = i
      · rw [q2, updK_same, updK_lt tv k hj2] at e2
        obtain ⟨a1, a2⟩ := key j hj2 e2.symm
        exact .inr ⟨a2, by rw [q2]; exact a1⟩
      · have hl2 := lt1 hl q2
        rw [updK_lt tv k hj2, updK_lt tv k hl2] at e2
        exact ok.inj j l hj2 hl2 e2
  · have e2 : B.S + p = B.S + q := e
    omega
  · by_cases q : j = i
    · subst q
      show updB has j h j = true ↔ kindZ z j = 1 ∨ ∃ l, l < _ ∧ updB has j h (kdZ z j l) = true
      rw [updB_same]
      refine hn.hs.trans ⟨?_, ?_⟩
      · rintro (a | ⟨l, hl, a⟩)
        · exact .inl a
        · exact .inr ⟨l, hl, by rw [updB_lt has h (npB0 hl)]; exact a⟩
      · rintro (a | ⟨l, hl, a⟩)
        · exact .inl a
        · exact .inr ⟨l, hl, by rw [updB_lt has h (npB0 hl)] at a; exact a⟩
    · have hj2 := lt1 hj q
      have h0 := ok.hs j hj2
      show updB has i h j = true ↔ kindZ z j = 1 ∨ ∃ l, l < _ ∧ updB has i h (kdZ z j l) = true
      rw [updB_lt has h hj2]
      refine h0.trans ⟨?_, ?_⟩
      · rintro (a | ⟨l, hl, a⟩)
        · exact .inl a
        · exact .inr ⟨l, hl, by rw [updB_lt has h (by have := npB0 hl; omega)]; exact a⟩
      · rintro (a | ⟨l, hl, a⟩)
        · exact .inl a
        · exact .inr ⟨l, hl, by rw [updB_lt has h (by have := npB0 hl; omega)] at a; exact a⟩
  · show (updK tv i k j).b < new
    by_cases q : j = i
    · subst q; rw [updK_same]; exact hn.lt
    · have hj2 := lt1 hj q
      rw [updK_lt tv k hj2]
      have : (tv j).b < old := ok.tB j hj2
      omega
def FB (B : Bk) (sz : Nat) : Nat → Prop := fun x => x < sz ∧ x ≠ B.tb ∧ x ≠ B.kb ∧ x ≠ B.pb ∧ x ≠ B.cb ∧ x ≠ B.hb
def M5 (B : Bk) : Nat → Prop := fun x => x = B.tb ∨ x = B.kb ∨ x = B.pb ∨ x = B.cb ∨ x = B.hb
def updV (f : Nat → Value) (i : Nat) (k : Value) : Nat → Value := fun j => if j = i then k else f j

theorem FB_M5 {B : Bk} {sz x : Nat} (h : FB B sz x) : ¬ M5 B x := by
  obtain ⟨_, h1, h2, h3, h4, h5⟩ := h
  rintro (e | e | e | e | e) <;> contradiction
theorem FB_mono {B : Bk} {sz sz' x : Nat} (h : FB B sz x) (hs : sz ≤ sz') : FB B sz' x := ⟨by have := h.1; omega, h.2⟩
theorem FB_new {B : Bk} (bo : BkOK B) {sz x : Nat} (h : B.S + 15 ≤ x) (hs : x < sz) : FB B sz x := by
  have := bo.tb; have := bo.kb; have := bo.pb; have := bo.cb; have := bo.hb
  exact ⟨hs, by omega, by omega, by omega, by omega, by omega⟩

structure BIn (B : Bk) (z : Zs) (use : Bool) (n i : Nat) (w0 w : World) (tv : Nat → Ky) (has : Nat → Bool) (kv : Nat → Value) : Prop where
  ok : (envB B z use i tv has w.heap.size).OK
  dag : DagIn (envB B z use i tv has w.heap.size) (FB B w.heap.size) w
  rt : w.rowIs B.tb 49 n (fun j => if j < i then (tv j).val else .nilIface)
  rk : w.rowIs B.kb 3 n (fun j => if j < i then .int .i64 (kindZ z j : Int) else .int .i64 0)
  rp : w.rowIs B.pb 3 n (fun j => if j < i ∧ kindZ z j = 1 then .int .i64 (pZ z j : Int) else .int .i64 0)
  rh : w.rowIs B.hb 4 n (fun j => if j < i then .bool (has j) else .bool false)
  rc : w.rowIs B.cb 23 n (fun j => if j < i then kv j else .slice none 0 0)
  ck : ∀ j, j < i → RowK (FB B w.heap.size) w (kv j) ((envB B z use i tv has w.heap.size).np j) (fun l => .int .i64 (kdZ z j l : Int))
  g0 : Grw None' w0 w
  s0 : B.S = w0.heap.size
  s1 : B.S + 15 ≤ w.heap.size

theorem BIn.step {B : Bk} {z : Zs} {use : Bool} {n i : Nat} {w0 w w' : World} {tv : Nat → Ky} {has : Nat → Bool} {kv : Nat → Value} (bo : BkOK B) (b : BIn B z use n i w0 w tv has kv) (hi : i < n) (hn : n ≤ 256) (g : Grw (M5 B) w w') (k : Ky) (h : Bool) (v : Value)
    (rt : w'.rowIs B.tb 49 n (fun j => if j = i then k.val else (if j < i then (tv j).val else .nilIface)))
    (rk : w'.rowIs B.kb 3 n (fun j => if j = i then .int .i64 (kindZ z i : Int) else (if j < i then .int .i64 (kindZ z j : Int) else .int .i64 0)))
    (rp : w'.rowIs B.pb 3 n (fun j => if j = i ∧ kindZ z i = 1 then .int .i64 (pZ z i : Int) else (if j < i ∧ kindZ z j = 1 then .int .i64 (pZ z j : Int) else .int .i64 0)))
    (rh : w'.rowIs B.hb 4 n (fun j => if j = i then .bool h else (if j < i then .bool (has j) else .bool false)))
    (rc : w'.rowIs B.cb 23 n (fun j => if j = i then v else (if j < i then kv j else .slice none 0 0)))
    (nn : NewN B z i has w.heap.size w'.heap.size k h) (hF : FB B w'.heap.size k.b) (hP : Plain w' k.b)
    (hnam : kindZ z i = 2 → NamedK (FB B w'.heap.size) w' k.b (mZ z i) (fun j => tv (kdZ z i j)))
    (hstr : kindZ z i = 3 → StructK (FB B w'.heap.size) w' k.b (mZ z i) (fun j => tv (kdZ z i (2 * j))) (fun j => tv (kdZ z i (2 * j + 1))))
    (hck : RowK (FB B w'.heap.size) w' v ((envB B z use i tv has w.heap.size).np i) (fun l => .int .i64 (kdZ z i l : Int))) :
    BIn B z use n (i + 1) w0 w' (updK tv i k) (updB has i h) (updV kv i v) := by
  have kp : Kp (FB B w.heap.size) w w' := g.kp (fun j hj => ⟨hj.1, FB_M5 hj⟩)
  have mono : ∀ j, FB B w.heap.size j → FB B w'.heap.size j := fun j hj => FB_mono hj g.size
  have lt1 : ∀ {j}, j < i + 1 → j ≠ i → j < i := fun h1 h2 => by omega
  have d0 := b.dag.kp kp mono
  refine ⟨envOK_succ (by omega) b.ok nn g.size, ⟨fun j hj => ?_, fun j hj e => ?_, fun j hj e => ?_, d0.pool, d0.fpool, d0.tgt, d0.ftgt, d0.cv, d0.fcv⟩, rt.congr (fun j _ => ?_), rk.congr (fun j _ => ?_), rp.congr (fun j _ => ?_), rh.congr (fun j _ => ?_), rc.congr (fun j _ => ?_), fun j hj => ?_, ?_, b.s0, Nat.le_trans b.s1 g.size⟩
  · show FB B w'.heap.size (updK tv i k j).b ∧ Plain w' (updK tv i k j).b
    by_cases q : j = i
    · subst q; rw [updK_same]; exact ⟨hF, hP⟩
    · rw [updK_lt tv k (lt1 hj q)]; exact d0.node j (lt1 hj q)
  · show NamedK (FB B w'.heap.size) w' (updK tv i k j).b (mZ z j) (fun l => updK tv i k (kdZ z j l))
    have hpos := kindZ_pos z j (.inl e)
    by_cases q : j = i
    · subst q; rw [updK_same]
      exact (hnam e).congr (fun l _ => (updK_lt tv k (kdZ_lt z j l hpos)).symm)
    · have hj2 := lt1 hj q
      rw [updK_lt tv k hj2]
      exact (d0.nam j hj2 e).congr (fun l _ => (updK_lt tv k (Nat.lt_trans (kdZ_lt z j l hpos) hj2)).symm)
  · show StructK (FB B w'.heap.size) w' (updK tv i k j).b (mZ z j) (fun l => updK tv i k (kdZ z j (2 * l))) (fun l => updK tv i k (kdZ z j (2 * l + 1)))
    have hpos := kindZ_pos z j (.inr e)
    by_cases q : j = i
    · subst q; rw [updK_same]
      exact (hstr e).congr (fun l _ => ⟨(updK_lt tv k (kdZ_lt z j _ hpos)).symm, (updK_lt tv k (kdZ_lt z j _ hpos)).symm⟩)
    · have hj2 := lt1 hj q
      rw [updK_lt tv k hj2]
      exact (d0.str j hj2 e).congr (fun l _ => ⟨(updK_lt tv k (Nat.lt_trans (kdZ_lt z j (2 * l) hpos) hj2)).symm, (updK_lt tv k (Nat.lt_trans (kdZ_lt z j (2 * l + 1) hpos) hj2)).symm⟩)
  · by_cases q : j = i
    · subst q; simp [updK_same]
    · by_cases q2 : j < i
      · rw [if_neg q, if_pos q2, if_pos (by omega), updK_lt tv k q2]
      · rw [if_neg q, if_neg q2, if_neg (by omega)]
  · by_cases q : j = i
    · subst q; simp
    · by_cases q2 : j < i
      · rw [if_neg q, if_pos q2, if_pos (by omega)]
      · rw [if_neg q, if_neg q2, if_neg (by omega)]
  · by_cases q : j = i
    · subst q
      by_cases q3 : kindZ z j = 1
      · rw [if_pos ⟨rfl, q3⟩, if_pos ⟨by omega, q3⟩]
      · rw [if_neg (fun a => q3 a.2), if_neg (fun a => q3 a.2), if_neg (fun a => q3 a.2)]
    · rw [if_neg (fun a => q a.1)]
      by_cases q2 : j < i
      · by_cases q3 : kindZ z j = 1
        · rw [if_pos ⟨q2, q3⟩, if_pos ⟨by omega, q3⟩]
        · rw [if_neg (fun a => q3 a.2), if_neg (fun a => q3 a.2)]
      · rw [if_neg (fun a => q2 a.1), if_neg (fun a => by have := a.1; omega)]
  · by_cases q : j = i
    · subst q; simp [updB_same]
    · by_cases q2 : j < i
      · rw [if_neg q, if_pos q2, if_pos (by omega), updB_lt has h q2]
      · rw [if_neg q, if_neg q2, if_neg (by omega)]
  · by_cases q : j = i
    · subst q; simp [updV]
    · by_cases q2 : j < i
      · rw [if_neg q, if_pos q2, if_pos (by omega)]; simp [updV, q]
      · rw [if_neg q, if_neg q2, if_neg (by omega)]
  · by_cases q : j = i
    · subst q; simp only [updV, if_true]; exact hck
    · have hj2 := lt1 hj q
      simp only [updV, if_neg q]
      exact (b.ck j hj2).kp kp mono
  · refine b.g0.step g (fun j h1 h2 => ?_)
    have := b.s0; have := bo.tb; have := bo.kb; have := bo.pb; have := bo.cb; have := bo.hb
    rcases h2 with e | e | e | e | e <;> omega
end Go.Proofs.Ybulkbebo
