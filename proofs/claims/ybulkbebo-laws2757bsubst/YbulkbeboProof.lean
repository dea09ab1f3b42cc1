/- The statement: LawS2757BSubst. -/
import Derived.Test.YbulkbeboRows
import Derived.Test.YbulkbeboLaw
import Derived.WalkKit
import Derived.ProofKit
import Derived.OpenShut
import Derived.ShutString
import Derived.ChangeOld
import Derived.Below
import Derived.Deep.Slices
namespace Go.Proofs.Ybulkbebo.lawS2757BSubst
open Go.ChangeShapes Go.WideShapes Go.ChangeAt Go.RowKit
open Go.Deep
set_option linter.unusedVariables false
set_option linter.unusedSimpArgs false

theorem own : ownKnob Yba.prog.godebug = none := by kernel_rfl
theorem laidOut : laidOutB Yba.prog = true := by kernel_rfl
theorem cells62 : Yba.prog.cellsOf 62 = 4 := by kernel_rfl
theorem cells5 : Yba.prog.cellsOf 5 = 1 := by kernel_rfl

theorem below_of {w w' : World} (h : w.grownBy w' none) : Below w.heap.size w w' := ⟨h.os, h.tape, h.output, h.size, fun k hk => h.block k hk (by simp)⟩

theorem walk (w : World) (a : Option Addr) (n cap : Nat) (use : Bool) (z : Zs) (h : InAt w a n z) :
    Calls Yba.prog 5 #[.slice a n cap, .bool use] w fun e w' => e = .returned (.bool true) ∧ Below w.heap.size w w' :=
  (law5 w a n cap use z h).mono fun e w' ⟨h1, h2⟩ => ⟨h1, below_of h2.to_grown⟩

theorem wf8 {v : Int} (h : (Lit.int .u8 v).wf = true) : 0 ≤ v ∧ v < 256 := by
  have hw2 : IntKind.u8.min ≤ v ∧ v ≤ IntKind.u8.max := by simpa [Lit.wf, go_sem] using h
  have e1 : IntKind.u8.min = 0 := by decide +kernel
  have e2 : IntKind.u8.max = 255 := by decide +kernel
  omega

set_option maxRecDepth 100000 in
theorem inAt_of {H : Type} {enc : TypeId × Value → H} {w : World} {base : Nat} {held : Bool} {fuel : Nat} {a : Option Addr} {n cap : Nat} {x : DataW H × List MemPlace} (h : DataW.trod enc Yba.prog w base (fun _ => true) held fuel 44 [.slice a n cap] = some x) : ∃ z, InAt w a n z := by
  rcases open_slice Yba.underlying44 h with ⟨hcs, _⟩ | ⟨b, len, c, m, k, D, Pl, hcs, hb, hl, hm, hmm, hx, hall⟩
  · simp at hcs
    obtain ⟨rfl, rfl, rfl⟩ := hcs
    exact ⟨⟨fun _ => 0, fun _ => 0, fun _ => 0, fun _ => 0⟩, fun i hi => absurd hi (Nat.not_lt_zero _), fun i hi => absurd hi (Nat.not_lt_zero _)⟩
  · simp at hcs
    obtain ⟨rfl, rfl, rfl⟩ := hcs
    simp only [if_true] at hmm
    have each : ∀ i, i < n → ∃ q : Nat × Nat × Nat × Nat, (w.cell? (b.add (i * 4)) = some (.int .u8 (q.1 : Int)) ∧ w.cell? (b.add (i * 4 + 1)) = some (.int .u8 (q.2.1 : Int)) ∧ w.cell? (b.add (i * 4 + 2)) = some (.int .u8 (q.2.2.1 : Int)) ∧ w.cell? (b.add (i * 4 + 3)) = some (.int .u8 (q.2.2.2 : Int))) ∧ q.1 < 256 ∧ q.2.1 < 256 ∧ q.2.2.1 < 256 ∧ q.2.2.2 < 256 := by
      intro i hi
      obtain ⟨cs', h1, h2⟩ := hall i (by omega)
      rw [cells62] at h1
      obtain ⟨_, hlen, hcell⟩ := World.cells?_some h1
      obtain ⟨xs, j, hj, hxy, _, hxl, hf⟩ := DataW.trod_struct Yba.underlying62 h2
      match xs, hxl, cs', hlen with
      | [y0, y1, y2, y3], _, [v0, v1, v2, v3], _ =>
        have g0 := hf 0 _ rfl
        have g1 := hf 1 _ rfl
        have g2 := hf 2 _ rfl
        have g3 := hf 3 _ rfl
        simp [cells5] at g0 g1 g2 g3
        obtain ⟨m0, e0, _, f0⟩ := DataW.trod_int Yba.underlying5 g0
        obtain ⟨m1, e1, _, f1⟩ := DataW.trod_int Yba.underlying5 g1
        obtain ⟨m2, e2, _, f2⟩ := DataW.trod_int Yba.underlying5 g2
        obtain ⟨m3, e3, _, f3⟩ := DataW.trod_int Yba.underlying5 g3
        simp only [List.cons.injEq, and_true] at e0 e1 e2 e3
        subst e0 e1 e2 e3
        have l0 := wf8 f0
        have l1 := wf8 f1
        have l2 := wf8 f2
        have l3 := wf8 f3
        have c0 := hcell 0 (by omega)
        have c1 := hcell 1 (by omega)
        have c2 := hcell 2 (by omega)
        have c3 := hcell 3 (by omega)
        rw [add_add] at c0 c1 c2 c3
        refine ⟨(m0.toNat, m1.toNat, m2.toNat, m3.toNat), ⟨?_, ?_, ?_, ?_⟩, ?_, ?_, ?_, ?_⟩
        · rw [Int.toNat_of_nonneg l0.1]; simpa using c0
        · show w.cell? (b.add (i * 4 + 1)) = some (.int .u8 (m1.toNat : Int)); rw [Int.toNat_of_nonneg l1.1]; simpa using c1
        · show w.cell? (b.add (i * 4 + 2)) = some (.int .u8 (m2.toNat : Int)); rw [Int.toNat_of_nonneg l2.1]; simpa using c2
        · show w.cell? (b.add (i * 4 + 3)) = some (.int .u8 (m3.toNat : Int)); rw [Int.toNat_of_nonneg l3.1]; simpa using c3
        · show m0.toNat < 256; omega
        · show m1.toNat < 256; omega
        · show m2.toNat < 256; omega
        · show m3.toNat < 256; omega
    obtain ⟨q, hq⟩ := choose_lt each
    refine ⟨⟨fun i => (q i).1, fun i => (q i).2.1, fun i => (q i).2.2.1, fun i => (q i).2.2.2⟩, fun i hi => ?_, fun i hi => (hq i hi).2⟩
    obtain ⟨xb, xo, spot⟩ := b
    obtain ⟨⟨c0, c1, c2, c3⟩, _⟩ := hq i hi
    have hspot : spot = none := by
      have h0 := (hq 0 (by omega)).1.1
      simpa [Addr.add] using World.cell?_spot h0
    subst hspot
    rw [add_plain] at c0 c1 c2 c3
    exact ⟨xb, xo, rfl, c0, c1, c2, c3⟩

set_option maxRecDepth 100000 in
theorem lifted (os : Os) (started : os.Started) (H : Type) (enc : TypeId × Value → H) :
    ReturnsInHanded {} Yba.checked os 5 .any (Rows.lawS2757BSubstSpec.pre6 enc Yba.prog Yba.f5 Rows.lawS2757BSubstRow.domain false) (Rows.lawS2757BSubstSpec.post enc Yba.prog Yba.f5 false true false false) := by
  refine returnsInHanded_of_change (C := Yba.checked) own started (by kernel_rfl) Yba.func5
    (ChangeSpec.witness6 (enc := enc) (C := Yba.checked) false ⟨#[], #[.slice none 0 0, .bool false], []⟩ 8 (by kernel_rfl) (by kernel_rfl) (by kernel_rfl) (by kernel_rfl)) ?_
  intro W base args ds gs before hval0 hW hcnd _
  have hval : ∀ (j : Nat) t v, Yba.f5.params[j]? = some t → args[j]? = some v → Value.okWide Yba.prog W .any base t v := hval0
  have hW' := hW
  obtain ⟨p, q, hA0, hV, rfl, hfz, hnd⟩ := hW
  have hA : DataW.TrodAll enc Yba.prog W 0 (fun _ => true) true Yba.f5.params.toList args.toList ds p := hA0
  rw [Yba.params5] at hA hval
  obtain ⟨v0, vs0, d0, ds0, p0, q0, hargs, rfl, rfl, h0, r0⟩ := trodAll_cons hA
  obtain ⟨v1, vs1, d1, ds1, p1, q1, rfl, rfl, rfl, h1, r1⟩ := trodAll_cons r0
  obtain ⟨rfl, rfl, rfl⟩ := trodAll_nil r1
  obtain rfl : args = #[v0, v1] := by cases args; simp_all
  obtain ⟨rfl, rfl⟩ := trodVars_none hV
  obtain ⟨a0, len0, cap0, rfl⟩ := okWide_slice Yba.underlying44 (hval 0 44 v0 rfl rfl)
  have k0 := h0
  have lt0 : ∀ x ∈ p0, x.block < W.heap.size := by obtain ⟨m, hm⟩ := k0; exact DataW.trod_lt m _ _ _ hm
  obtain ⟨z0, w0⟩ : ∃ z, InAt W a0 len0 z := by
    obtain ⟨fuel, hf⟩ := h0
    exact inAt_of hf
  obtain ⟨b1, rfl, rfl, rfl⟩ := open_bool Yba.underlying4 (hval 1 4 v1 rfl rfl) h1
  clear hA0 hval0
  refine (walk W a0 len0 cap0 b1 z0 w0).mono fun e W' ⟨he, bel⟩ => ?_
  subst he
  exact ⟨_, rfl, _, _, _, [], _, [], hW', trodAll_mk1 (shut_bool Yba.underlying4 _), (trodAll_cons_mk (Below.trod laidOut (by kernel_rfl) (of_decide_eq_true (by kernel_rfl)) k0 bel lt0) (trodAll_cons_mk (shut_bool Yba.underlying4 _) trodAll_mk0)), rfl, bel.frame _, fun h => by cases h⟩

theorem over : Rows.lawS2757BSubstRow.holds Yba.pinned (OpenSpec.ofChange Rows.lawS2757BSubstSpec) :=
  OpenClaim.holds_of_wide 5 Yba.f5 rfl rfl rfl rfl rfl rfl rfl ⟨rfl, rfl, rfl, rfl, rfl⟩ rfl rfl rfl rfl rfl (by kernel_rfl) Yba.func5 (by kernel_rfl)
    (of_decide_eq_true (by kernel_rfl)) (by unfold Func.isWrapper; first | (rw [if_pos (by decide +kernel)]; kernel_rfl) | (rw [if_neg (by decide +kernel)]; exact ⟨rfl, rfl⟩))
    (fun os started H enc _ => lifted os started H enc)

/-- THE STATEMENT. -/
theorem proved : Rows.LawS2757BSubstSaid := over
end Go.Proofs.Ybulkbebo.lawS2757BSubst
