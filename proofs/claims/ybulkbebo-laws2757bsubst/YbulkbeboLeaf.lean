/- The small closures: the law's Annot, WithType, rebuild's typ and annot. -/
import Derived.Test.YbulkbeboEq
namespace Go.Proofs.Ybulkbebo
open Go.RowKit
open Classical
attribute [local go_sem] neq_func75 neq_func76 neq_nil76 as45_45 as53_45 as63_45 as72_45 as45_63 as53_63 as63_63 as72_63 as45_72 as53_72 as63_72 as72_72 as45_95 as53_95 as63_95 as72_95
set_option linter.unusedSimpArgs false
set_option linter.unusedVariables false
def ann (a b : Ky) : Value := .agg #[a.val, b.val]

theorem annot_any (w : World) (c : Nat) (k : Int) (a b a' b' : Ky) (h : CntAt w c k) (hk : 0 ≤ k) (hk2 : k < 100000) :
    Calls Yba.prog 10 #[ann a b, ann a' b', .pointer (some ⟨c, 0, none⟩)] w fun e w' => e = .returned (ann a' b') ∧ Grw (fun j => j = c) w w' ∧ CntAt w' c (k + 1) := by
  have hset : Hid (∀ x, Grw (fun j => j = c) w (aft (w.setCell ⟨c, 0, none⟩ (.int .i64 (k + 1))) x) ∧ CntAt (aft (w.setCell ⟨c, 0, none⟩ (.int .i64 (k + 1))) x) c (k + 1)) := fun x =>
    ⟨((Grw.refl (fun j => j = c) w).setCell (a := ⟨c, 0, none⟩) (fun _ => rfl) _).aft x, (h.set (k + 1)).grw (M := None') ((Grw.refl _ _).aft x) (fun e => e)⟩
  have hl := h.lt
  obtain ⟨h, hf⟩ := h
  unfold ann Ky.val
  obtain ⟨a1, a2⟩ := a
  obtain ⟨b1, b2⟩ := b
  obtain ⟨c1, c2⟩ := a'
  obtain ⟨d1, d2⟩ := b'
  simp only
  have l1 : c < w.heap.size + 1 := by omega
  have l2 : c < w.heap.size + 1 + 1 := by omega
  go_enter Yba.func10, Yba.ntmps10
  go_wp2_with fail
  exact bodyPost_ret (v := .agg #[.iface c1 (.pointer (some ⟨c2, 0, none⟩)), .iface d1 (.pointer (some ⟨d2, 0, none⟩))]) (by simp [results, Yba.results10, go_sem]) rfl ⟨rfl, hset.out ⟨[_, _, _], 0⟩⟩

/-- A field: its name f, no place, the types T and V. -/
structure FieldAt (w : World) (f : Nat) (T V : Ky) : Prop where
  c0 : w.cell? ⟨f, 0, none⟩ = some (.string ⟨#[102]⟩)
  c1 : w.cell? ⟨f, 1, none⟩ = some (.int .i64 0)
  c2 : w.cell? ⟨f, 2, none⟩ = some (.int .i64 0)
  c3 : w.cell? ⟨f, 3, none⟩ = some T.val
  c4 : w.cell? ⟨f, 4, none⟩ = some V.val
  c5 : w.cell? ⟨f, 5, none⟩ = some (.bool false)
  tag : ∃ cs, w.heap[f]? = some (.cells cs 71 (0, 0))

theorem FieldAt.pl {w : World} {f : Nat} {T V : Ky} (h : FieldAt w f T V) : Plain w f := by
  obtain ⟨cs, h⟩ := h.tag
  exact ⟨cs, 71, h⟩

theorem FieldAt.same {w w' : World} {f : Nat} {T V : Ky} (h : FieldAt w f T V) (e : w'.heap[f]? = w.heap[f]?) : FieldAt w' f T V :=
  ⟨(cell_same e 0).trans h.c0, (cell_same e 1).trans h.c1, (cell_same e 2).trans h.c2, (cell_same e 3).trans h.c3, (cell_same e 4).trans h.c4, (cell_same e 5).trans h.c5, by obtain ⟨cs, h⟩ := h.tag; exact ⟨cs, e.trans h⟩⟩

def fieldObj (T V : Ky) : Obj := .cells #[.string ⟨#[102]⟩, .int .i64 0, .int .i64 0, T.val, V.val, .bool false] 71

theorem fieldAt_new (w : World) (T V : Ky) (o : Nat) (ho : o = w.heap.size) : FieldAt (w.alloc (fieldObj T V)) o T V := by
  subst ho
  unfold fieldObj
  have hb := heap_alloc_new w (.cells #[.string ⟨#[102]⟩, .int .i64 0, .int .i64 0, T.val, V.val, .bool false] 71)
  refine ⟨?_, ?_, ?_, ?_, ?_, ?_, ⟨_, hb⟩⟩ <;> go_simp

theorem withType_any (w : World) (f : Nat) (T V a b : Ky) (hf : FieldAt w f T V) :
    Calls Yba.prog 35 #[.pointer (some ⟨f, 0, none⟩), ann a b] w fun e w' => e = .returned (.pointer (some ⟨w.heap.size + 1, 0, none⟩)) ∧ Grw None' w w' ∧ w'.heap.size = w.heap.size + 2 ∧ FieldAt w' (w.heap.size + 1) a b := by
  have hl : f < w.heap.size := World.block_lt_of_cell? _ _ hf.c0
  have l1 : f < w.heap.size + 1 := by omega
  have hnew : Hid (Grw None' w ((w.alloc (.cells #[a.val, b.val] 69)).alloc (fieldObj a b)) ∧ ((w.alloc (.cells #[a.val, b.val] 69)).alloc (fieldObj a b)).heap.size = w.heap.size + 2 ∧ FieldAt ((w.alloc (.cells #[a.val, b.val] 69)).alloc (fieldObj a b)) (w.heap.size + 1) a b) :=
    ⟨((Grw.refl _ w).alloc _).alloc _, by simp only [World.alloc, Array.size_push], fieldAt_new _ _ _ _ (by simp only [World.alloc, Array.size_push])⟩
  have c0 := hf.c0
  have c1 := hf.c1
  have c2 := hf.c2
  have c3 := hf.c3
  have c4 := hf.c4
  have c5 := hf.c5
  clear hf
  unfold ann
  unfold fieldObj at hnew
  unfold Ky.val at *
  obtain ⟨a1, a2⟩ := a
  obtain ⟨b1, b2⟩ := b
  obtain ⟨t1, t2⟩ := T
  obtain ⟨v1, v2⟩ := V
  simp only at *
  go_enter Yba.func35, Yba.ntmps35
  go_wp2_with fail
  go_ret
  exact ⟨rfl, hnew.out⟩

theorem typ_any (w : World) (dv r : Nat) (D : List (Ky × Ky)) (k v : Ky) (hd : w.cell? ⟨dv, 0, none⟩ = some (.map (some r))) (hm : MapAt w r (vals D)) (hk : k.ok) (hkb : Plain w k.b) (hv : lk D k = some v) :
    Calls Yba.prog 25 #[k.val, .pointer (some ⟨dv, 0, none⟩)] w fun e w' => e = .returned v.val ∧ w' = w := by
  have hl := lookup_v w r (vals D) hm k hk hkb
  rw [lookD_vals, hv] at hl
  simp only [Option.map_some, Option.getD_some] at hl
  clear hm hk hkb hv
  unfold Ky.val at *
  go_enter Yba.func25, Yba.ntmps25
  go_wp2_with fail
  go_ret
  exact ⟨rfl, rfl⟩

set_option maxRecDepth 100000 in
set_option maxHeartbeats 4000000 in
/-- The variable dv holds the map; the block rb holds the Rewrite: Param, Annot (the law's closure over the counter c), Method. -/
theorem annot26_any (w : World) (dv r rb c : Nat) (k0 : Int) (D : List (Ky × Ky)) (T V a b : Ky) (hd : w.cell? ⟨dv, 0, none⟩ = some (.map (some r))) (hm : MapAt w r (vals D))
    (hT : T.ok) (hTb : Plain w T.b) (hV : V.ok) (hVb : Plain w V.b) (ha : lk D T = some a) (hb : lk D V = some b)
    (h1 : w.cell? ⟨rb, 1, none⟩ = some (.func (.func 10) #[] #[.pointer (some ⟨c, 0, none⟩)]))
    (hc : CntAt w c k0) (hk : 0 ≤ k0) (hk2 : k0 < 100000) :
    Calls Yba.prog 26 #[ann T V, .pointer (some ⟨dv, 0, none⟩), .pointer (some ⟨rb, 0, none⟩)] w fun e w' => e = .returned (ann a b) ∧ Grw (fun j => j = c) w w' ∧ CntAt w' c (k0 + 1) := by
  have hlk : ∀ (W : World), Grw None' w W → (Instr.lookup 93 (.map (some r)) T.val false).run Yba.prog W = .ok a.val W ∧ (Instr.lookup 93 (.map (some r)) V.val false).run Yba.prog W = .ok b.val W := by
    intro W g
    have hm2 := hm.grw g (fun e => e) (fun _ _ e => e)
    have e1 := lookup_v W r (vals D) hm2 T hT (hTb.grw g (fun e => e))
    have e2 := lookup_v W r (vals D) hm2 V hV (hVb.grw g (fun e => e))
    rw [lookD_vals, ha] at e1
    rw [lookD_vals, hb] at e2
    exact ⟨e1, e2⟩
  have hcall : Hid (∀ W, Grw None' w W → Calls Yba.prog 10 #[ann T V, ann a b, .pointer (some ⟨c, 0, none⟩)] W fun e w' => e = .returned (ann a b) ∧ Grw (fun j => j = c) W w' ∧ CntAt w' c (k0 + 1)) := fun W g =>
    annot_any W c k0 T V a b (hc.grw g (fun e => e)) hk hk2
  obtain ⟨p1, p2⟩ := hlk (((w.alloc (.cells #[T.val, V.val] 69)).alloc (.cells #[.nilIface, .nilIface] 69)).drew) (((Grw.refl _ w).alloc _).alloc _).drew
  obtain ⟨p3, p4⟩ := hlk ((((w.alloc (.cells #[T.val, V.val] 69)).alloc (.cells #[.nilIface, .nilIface] 69)).alloc (.cells #[.nilIface, .nilIface] 69)).drew) ((((Grw.refl _ w).alloc _).alloc _).alloc _).drew
  have lc := hc.lt
  clear hlk hm hT hTb hV hVb ha hb hc
  have ld : dv < w.heap.size := World.block_lt_of_cell? _ _ hd
  have ld1 : dv < w.heap.size + 1 := by omega
  have ld2 : dv < w.heap.size + 1 + 1 := by omega
  have ld3 : dv < w.heap.size + 1 + 1 + 1 := by omega
  have lr : rb < w.heap.size := World.block_lt_of_cell? _ _ h1
  have lr1 : rb < w.heap.size + 1 := by omega
  have lr2 : rb < w.heap.size + 1 + 1 := by omega
  have lr3 : rb < w.heap.size + 1 + 1 + 1 := by omega
  obtain ⟨a1, a2⟩ := a
  obtain ⟨b1, b2⟩ := b
  obtain ⟨t1, t2⟩ := T
  obtain ⟨v1, v2⟩ := V
  unfold ann at hcall ⊢
  unfold Ky.val at *
  simp only at *
  go_enter Yba.func26, Yba.ntmps26
  go_wp2_with fail
  go_region
  all_goals
    clear p1 p2 p3 p4
    go_wp2_with fail
    refine Calls.mono (hcall.out _ ((((Grw.refl _ w).alloc _).alloc _).alloc _).drew) ?_
    rintro e w' ⟨rfl, g, hcn⟩
    clear hcall
    have gw : Hid (Grw (fun j => j = c) w w') := ((((Grw.refl _ w).alloc _).alloc _).alloc _).drew.trans g
    have k1 : w'.cell? ⟨w.heap.size + 1, 0, none⟩ = some .nilIface := g.cellOf (by go_simp) (by show ¬ _ = c; omega)
    have k2 : w'.cell? ⟨w.heap.size + 1, 1, none⟩ = some .nilIface := g.cellOf (by go_simp) (by show ¬ _ = c; omega)
    have k3 : w'.frozen? ⟨w.heap.size + 1, 0, none⟩ = false := (g.frozen (by go_simp) (by show ¬ _ = c; omega)).trans (by go_simp)
    have k4 : w'.frozen? ⟨w.heap.size + 1, 1, none⟩ = false := (g.frozen (by go_simp) (by show ¬ _ = c; omega)).trans (by go_simp)
    have Hcn : Hid _ := hcn
    clear g hcn
    go_wp2_with fail
    refine bodyPost_ret (v := .agg #[.iface a1 (.pointer (some ⟨a2, 0, none⟩)), .iface b1 (.pointer (some ⟨b2, 0, none⟩))]) (by simp [results, Yba.results26, go_sem, k1, k2]) rfl ⟨rfl, ?_, ?_⟩
    · exact (gw.out.setCell (a := ⟨w.heap.size + 1, 0, none⟩) (fun h => by simp only at h; omega) _).setCell (a := ⟨w.heap.size + 1, 1, none⟩) (fun h => by simp only at h; omega) _
    · exact Hcn.out.grw (M := fun j => j = w.heap.size + 1) (((Grw.refl (fun j => j = w.heap.size + 1) w').setCell (a := ⟨w.heap.size + 1, 0, none⟩) (fun h => rfl) _).setCell (a := ⟨w.heap.size + 1, 1, none⟩) (fun h => rfl) _) (by show ¬ c = _; omega)
end Go.Proofs.Ybulkbebo
