/- The law's last part: the memory around the calls of Apply and of the check. -/
import Derived.Test.YbulkbeboLaw4
namespace Go.Proofs.Ybulkbebo
open Go.RowKit
open Classical
attribute [local go_sem] neq_func75 neq_func76 neq_nil76 as45_45 as53_45 as63_45 as72_45 as45_63 as53_63 as63_63 as72_63 as45_72 as53_72 as63_72 as72_72 as45_95 as53_95 as63_95 as72_95 eql58_none eql58_some eql66_none eql66_some mkMap93 store_map
set_option linter.unusedSimpArgs false
set_option linter.unusedVariables false

/-- The memory ahead of Apply's call. -/
structure ApIn (wB wx : World) (wb cv cr ac rwb : Nat) (wq : Nat → Nat) (P : Value) : Prop where
  g : Grw None' wB wx
  ccv : wx.cell? ⟨cv, 0, none⟩ = some (.slice (some ⟨cr, 0, none⟩) 3 3)
  cnt : CntAt wx ac 0
  cls : CallsAt wx cr (fun _ => 0)
  r0 : wx.cell? ⟨rwb, 0, none⟩ = some P
  r1 : wx.cell? ⟨rwb, 1, none⟩ = some (.func (.func 10) #[] #[.pointer (some ⟨ac, 0, none⟩)])
  r2 : wx.cell? ⟨rwb, 2, none⟩ = some .nilFunc
  rq : wx.rowIs wb 3 3 (fun q => .int .i64 (wq q : Int))
  b : wB.heap.size ≤ cr ∧ wB.heap.size ≤ cv ∧ wB.heap.size ≤ ac
  ne : wb ≠ cr ∧ wb ≠ ac ∧ cv ≠ cr ∧ cv ≠ ac ∧ ac ≠ cr ∧ rwb ≠ cr ∧ rwb ≠ ac
  lt : cv < wx.heap.size

theorem apIn_new {n : Nat} {wB w2 : World} {rb wb : Nat} {R : Nat → Bool} {wq : Nat → Nat} (h : RchM n wB w2 rb wb R wq) (P : Value) (cr cv ac rwb : Nat) (h1 : w2.heap.size = cr) (h2 : cr + 1 = cv) (h3 : cv + 1 = ac) (h4 : ac + 1 = rwb) :
    ApIn wB ((((w2.alloc (.cells #[.int .i64 0, .int .i64 0, .int .i64 0] 3)).alloc (.cells #[.slice (some ⟨cr, 0, none⟩) 3 3] 23)).alloc (.cells #[.int .i64 0] 3)).alloc (.cells #[P, .func (.func 10) #[] #[.pointer (some ⟨ac, 0, none⟩)], .nilFunc] 79)) wb cv cr ac rwb wq P := by
  subst h1 h2 h3 h4
  have hl := h.rq.lt
  have sz := h.g.size
  have h0 := (Grw.refl None' w2)
  refine ⟨(((h.g.alloc _).alloc _).alloc _).alloc _, by go_simp, ⟨by go_simp, by go_simp⟩, ⟨fun i hi => ?_, fun i hi => by go_simp, fun i hi => ⟨by omega, by omega⟩⟩, by go_simp, by go_simp, by go_simp, (((h.rq.alloc _).alloc _).alloc _).alloc _, ⟨by omega, by omega, by omega⟩, ⟨by omega, by omega, by omega, by omega, by omega, by omega, by omega⟩, ?_⟩
  · rcases (by omega : i = 0 ∨ i = 1 ∨ i = 2) with rfl | rfl | rfl <;> go_simp
  · simp only [World.alloc, Array.size_push]; omega

def ApOut (B : Bk) (z : Zs) (use : Bool) (n N : Nat) (tv : Nat → Ky) (has : Nat → Bool) (wB : World) (wb cv cr ac : Nat) (wq : Nat → Nat) (R : Nat → Bool) (s : Value) (wx : World) : Prop :=
  ∃ D F, s = (rr D (tv N)).val ∧ isD D (tv N) ∧ Grw None' wB wx ∧ DagIn (envF B z use n tv has wB.heap.size cv cr ac) F wx ∧ Good (envF B z use n tv has wB.heap.size cv cr ac) F wx D ∧ (∀ j, F j → j < wx.heap.size) ∧ CntAt wx ac (cntD (envF B z use n tv has wB.heap.size cv cr ac) D : Nat) ∧ CallsAt wx cr (clD (envF B z use n tv has wB.heap.size cv cr ac) D) ∧ wx.rowIs wb 3 3 (fun q => .int .i64 (wq q : Int)) ∧ ∀ p, p ∈ D → ∃ i, i < n ∧ R i = true ∧ p.1 = tv i

section
variable {B : Bk} {z : Zs} {use : Bool} {n N : Nat} {tv : Nat → Ky} {has : Nat → Bool} {kv : Nat → Value} {w0 wB wc : World} {wb cv cr ac rwb wa : Nat} {wq : Nat → Nat} {R : Nat → Bool}

theorem ap_call (bo : BkOK B) (b : BIn B z use n n w0 wB tv has kv) (hP : RchP z use n 0 R wq wa) (hN : n = N + 1) (h : ApIn wB wc wb cv cr ac rwb wq (pvalOf (envF B z use n tv has wB.heap.size cv cr ac))) (W : World) (g : Grw None' wc W) :
    Calls Yba.prog 12 #[.agg #[pvalOf (envF B z use n tv has wB.heap.size cv cr ac), .func (.func 10) #[] #[.pointer (some ⟨ac, 0, none⟩)], .nilFunc], (tv N).val] W (fun e w' => ∃ s, e = .returned s ∧ ApOut B z use n N tv has wB wb cv cr ac wq R s w' ∧ (w'.cell? ⟨rwb, 0, none⟩ = some (pvalOf (envF B z use n tv has wB.heap.size cv cr ac)) ∧ w'.cell? ⟨rwb, 1, none⟩ = some (.func (.func 10) #[] #[.pointer (some ⟨ac, 0, none⟩)]) ∧ w'.cell? ⟨rwb, 2, none⟩ = some .nilFunc ∧ w'.cell? ⟨B.tb, N, none⟩ = some (tv N).val)) := by
  have ok := envF_ok cv cr ac b.ok
  obtain ⟨b1, b2, b3⟩ := h.b
  obtain ⟨n1, n2, n3, n4, n5, n6, n7⟩ := h.ne
  have gB : Grw None' wB W := h.g.trans g
  have sW := g.size
  have sB := h.g.size
  have hlt := h.lt
  have hc := apply12 (envF B z use n tv has wB.heap.size cv cr ac) ok (fun i => R i = true) (fun i j hi hr hj => hP.kids i j (Nat.zero_le _) hi hr hj) W N (by show N < n; omega) (by have := hP.root; rw [hN] at this; exact this) (fun j => FB B wB.heap.size j ∨ j = cv)
    (fun j hj => by
      rcases hj with hj | rfl
      · have := hj.1; omega
      · omega)
    (fun hj => by
      rcases hj with hj | hj
      · have : ac < wB.heap.size := hj.1
        omega
      · exact n4 hj.symm)
    (fun hj => by
      rcases hj with hj | hj
      · have : cr < wB.heap.size := hj.1
        omega
      · exact n3 hj.symm) n5 (by show wB.heap.size ≤ W.heap.size; omega) (dagF b gB cv cr ac (g.cellOf h.ccv (fun e => e))) (h.cnt.grw g (fun e => e)) (h.cls.grw g (fun e => e))
  refine Calls.mono hc ?_
  rintro e w' ⟨D, F, rfl, h1, h2, h3, h4, h5, h6, h7, h8, h9, h10⟩
  have hg' : Grw None' wB w' := gB.step h2 (fun j hj e => by
    rcases e with e | e
    · have : j = cr := e
      omega
    · have : j = ac := e
      omega)
  have hM : ∀ x, x ≠ cr → x ≠ ac → ¬ ((fun j => j = (envF B z use n tv has wB.heap.size cv cr ac).cr ∨ j = (envF B z use n tv has wB.heap.size cv cr ac).ac) x) := fun x p q e => by
    rcases e with e | e
    · exact p e
    · exact q e
  have tN := b.rt.cell (i := N) (by omega)
  rw [if_pos (show N < n by omega)] at tN
  refine ⟨_, rfl, ⟨D, F, rfl, h1, hg', h3, h4, h7, h5, h6, ?_, h10⟩, h2.cellOf (g.cellOf h.r0 (fun e => e)) (hM _ n6 n7), h2.cellOf (g.cellOf h.r1 (fun e => e)) (hM _ n6 n7), h2.cellOf (g.cellOf h.r2 (fun e => e)) (hM _ n6 n7), hg'.cellOf tN (fun e => e)⟩
  have hl := h.rq.lt
  exact h.rq.of_block ((h2.block wb (by omega) (hM _ n1 n2)).trans (g.block wb hl (fun e => e)))

/-- The memory behind the check's state. -/
def ChIn (B : Bk) (z : Zs) (use : Bool) (n : Nat) (tv : Nat → Ky) (has : Nat → Bool) (wB : World) (cv cr ac : Nat) (D : List (Ky × Ky)) (w3 : World) (s : Value) (wx : World) : Prop :=
  ∃ sb mb nb, s = .pointer (some ⟨sb, 0, none⟩) ∧ CI (envF B z use n tv has wB.heap.size cv cr ac) ⟨sb, B.tb, B.kb, B.pb, B.cb, B.hb, mb, nb⟩ (fun j => j < w3.heap.size ∨ j = sb) D wx ∧ Grw None' w3 wx ∧ w3.heap.size ≤ mb ∧ w3.heap.size ≤ nb

theorem chA (bo : BkOK B) (b : BIn B z use n n w0 wB tv has kv) {w3 wx : World} {F : Nat → Prop} {D : List (Ky × Ky)} (g3 : Grw None' wB w3) (dag : DagIn (envF B z use n tv has wB.heap.size cv cr ac) F w3) (good : Good (envF B z use n tv has wB.heap.size cv cr ac) F w3 D) (flt : ∀ j, F j → j < w3.heap.size)
    (g : Grw None' (((w3.alloc (.cells (madeCells #[.nilIface] n) 49)).alloc (.cells (madeCells #[.bool false] n) 4)).alloc (.cells #[.slice (some ⟨B.tb, 0, none⟩) n n, .slice (some ⟨B.kb, 0, none⟩) n n, .slice (some ⟨B.pb, 0, none⟩) n n, .slice (some ⟨B.cb, 0, none⟩) n n, .slice (some ⟨B.hb, 0, none⟩) n n, .bool use, .slice (some ⟨B.gr, 0, none⟩) 3 3, .slice (some ⟨w3.heap.size, 0, none⟩) n n, .slice (some ⟨w3.heap.size + 1, 0, none⟩) n n] 83)) wx) :
    ChIn B z use n tv has wB cv cr ac D w3 (.pointer (some ⟨w3.heap.size + 1 + 1, 0, none⟩)) wx := by
  have sz : ∀ (W : World) (o : Obj), (W.alloc o).heap.size = W.heap.size + 1 := fun W o => by simp only [World.alloc, Array.size_push]
  have r1 := made_row (w3.alloc (.cells (madeCells #[.nilIface] n) 49)) w3.heap.size n .nilIface 49 (heap_alloc_new w3 _)
  have hr2 := heap_alloc_new (w3.alloc (.cells (madeCells #[.nilIface] n) 49)) (.cells (madeCells #[.bool false] n) 4)
  rw [sz] at hr2
  have r2 := made_row _ _ n (.bool false) 4 hr2
  have hs := heap_alloc_new ((w3.alloc (.cells (madeCells #[.nilIface] n) 49)).alloc (.cells (madeCells #[.bool false] n) 4)) (.cells #[.slice (some ⟨B.tb, 0, none⟩) n n, .slice (some ⟨B.kb, 0, none⟩) n n, .slice (some ⟨B.pb, 0, none⟩) n n, .slice (some ⟨B.cb, 0, none⟩) n n, .slice (some ⟨B.hb, 0, none⟩) n n, .bool use, .slice (some ⟨B.gr, 0, none⟩) 3 3, .slice (some ⟨w3.heap.size, 0, none⟩) n n, .slice (some ⟨w3.heap.size + 1, 0, none⟩) n n] 83)
  rw [sz, sz] at hs
  refine ⟨w3.heap.size + 1 + 1, w3.heap.size, w3.heap.size + 1, rfl, ?_, ((((Grw.refl None' w3).alloc _).alloc _).alloc _).trans g, Nat.le_refl _, by omega⟩
  exact (ciF bo b g3 dag good flt ((((Grw.refl None' w3).alloc _).alloc _).alloc _) (w3.heap.size + 1 + 1) w3.heap.size (w3.heap.size + 1) ((r1.alloc _).alloc _) (r2.alloc _) (Nat.le_refl _) (by omega) (by omega) (by rw [sz, sz, sz]; omega) (by omega) (by omega) (by omega) hs).same g

theorem chB (bo : BkOK B) (b : BIn B z use n n w0 wB tv has kv) {w3 wx : World} {F : Nat → Prop} {D : List (Ky × Ky)} (g3 : Grw None' wB w3) (dag : DagIn (envF B z use n tv has wB.heap.size cv cr ac) F w3) (good : Good (envF B z use n tv has wB.heap.size cv cr ac) F w3 D) (flt : ∀ j, F j → j < w3.heap.size)
    (g : Grw None' (((w3.alloc (.cells (madeCells #[.bool false] n) 4)).alloc (.cells (madeCells #[.nilIface] n) 49)).alloc (.cells #[.slice (some ⟨B.tb, 0, none⟩) n n, .slice (some ⟨B.kb, 0, none⟩) n n, .slice (some ⟨B.pb, 0, none⟩) n n, .slice (some ⟨B.cb, 0, none⟩) n n, .slice (some ⟨B.hb, 0, none⟩) n n, .bool use, .slice (some ⟨B.gr, 0, none⟩) 3 3, .slice (some ⟨w3.heap.size + 1, 0, none⟩) n n, .slice (some ⟨w3.heap.size, 0, none⟩) n n] 83)) wx) :
    ChIn B z use n tv has wB cv cr ac D w3 (.pointer (some ⟨w3.heap.size + 1 + 1, 0, none⟩)) wx := by
  have sz : ∀ (W : World) (o : Obj), (W.alloc o).heap.size = W.heap.size + 1 := fun W o => by simp only [World.alloc, Array.size_push]
  have r2 := made_row (w3.alloc (.cells (madeCells #[.bool false] n) 4)) w3.heap.size n (.bool false) 4 (heap_alloc_new w3 _)
  have hr1 := heap_alloc_new (w3.alloc (.cells (madeCells #[.bool false] n) 4)) (.cells (madeCells #[.nilIface] n) 49)
  rw [sz] at hr1
  have r1 := made_row _ _ n .nilIface 49 hr1
  have hs := heap_alloc_new ((w3.alloc (.cells (madeCells #[.bool false] n) 4)).alloc (.cells (madeCells #[.nilIface] n) 49)) (.cells #[.slice (some ⟨B.tb, 0, none⟩) n n, .slice (some ⟨B.kb, 0, none⟩) n n, .slice (some ⟨B.pb, 0, none⟩) n n, .slice (some ⟨B.cb, 0, none⟩) n n, .slice (some ⟨B.hb, 0, none⟩) n n, .bool use, .slice (some ⟨B.gr, 0, none⟩) 3 3, .slice (some ⟨w3.heap.size + 1, 0, none⟩) n n, .slice (some ⟨w3.heap.size, 0, none⟩) n n] 83)
  rw [sz, sz] at hs
  refine ⟨w3.heap.size + 1 + 1, w3.heap.size + 1, w3.heap.size, rfl, ?_, ((((Grw.refl None' w3).alloc _).alloc _).alloc _).trans g, by omega, Nat.le_refl _⟩
  exact (ciF bo b g3 dag good flt ((((Grw.refl None' w3).alloc _).alloc _).alloc _) (w3.heap.size + 1 + 1) (w3.heap.size + 1) w3.heap.size (r1.alloc _) ((r2.alloc _).alloc _) (by omega) (Nat.le_refl _) (by omega) (by rw [sz, sz, sz]; omega) (by omega) (by omega) (by omega) hs).same g

theorem chIn_call {w3 wx : World} {D : List (Ky × Ky)} {s : Value} (b : BIn B z use n n w0 wB tv has kv) (h : ChIn B z use n tv has wB cv cr ac D w3 s wx) (hN : N < n) (hd : isD D (tv N)) (kN : Value) (hk : (rr D (tv N)).val = kN) :
    Calls Yba.prog 13 #[s, .int .i64 (N : Int), kN] wx (fun e w' => e = .returned (.bool true) ∧ Grw None' w3 w') := by
  subst hk
  obtain ⟨sb, mb, nb, rfl, hci, hg, hmb, hnb⟩ := h
  refine Calls.mono (check13 (envF B z use n tv has wB.heap.size cv cr ac) (envF_ok cv cr ac b.ok) ⟨sb, B.tb, B.kb, B.pb, B.cb, B.hb, mb, nb⟩ _ D N hN hd wx hci) ?_
  rintro e w' ⟨rfl, _, hg2⟩
  refine ⟨rfl, hg.step hg2 (fun j hj e => ?_)⟩
  rcases e with e | e
  · have e2 : j = mb := e
    omega
  · have e2 : j = nb := e
    omega
end

theorem wrapN (N : Nat) (h : N ≤ 256) : IntKind.i64.wrap (N : Int) = (N : Int) := by
  have h2 : (N : Int) ≤ 256 := by omega
  have h3 : (0 : Int) ≤ (N : Int) := by omega
  first | (go_num; done) | (unfold IntKind.wrap; simp [IntKind.signed, IntKind.bits]; omega)

def CmR (w4 : World) (g : Nat) (vk : Value) (wr : World) : Prop :=
  ∃ k : Nat, k ≤ 3 ∧ g = 3 - k ∧ vk = .int .i64 (k : Int) ∧ Grw None' w4 wr
end Go.Proofs.Ybulkbebo
