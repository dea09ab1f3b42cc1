/- MapArgs, MapFields, mapParts. -/
import Derived.Test.YbulkbeboFld
namespace Go.Proofs.Ybulkbebo
open Go.RowKit
open Classical
attribute [local go_sem] neq_func75 neq_func76 neq_nil76 as45_45 as53_45 as63_45 as72_45 as45_63 as53_63 as63_63 as72_63 as45_72 as53_72 as63_72 as72_72 as45_95 as53_95 as63_95 as72_95 eql58_none eql58_some eql66_none eql66_some
set_option linter.unusedSimpArgs false
set_option linter.unusedVariables false

/-- A Named: the name N, the arguments v, no place. -/
structure NamedAt (w : World) (b : Nat) (v : Value) : Prop where
  c0 : w.cell? ⟨b, 0, none⟩ = some (.string ⟨#[78]⟩)
  c1 : w.cell? ⟨b, 1, none⟩ = some v
  c2 : w.cell? ⟨b, 2, none⟩ = some (.int .i64 0)
  c3 : w.cell? ⟨b, 3, none⟩ = some (.int .i64 0)
  pl : Plain w b

theorem NamedAt.same {w w' : World} {b : Nat} {v : Value} (h : NamedAt w b v) (e : w'.heap[b]? = w.heap[b]?) : NamedAt w' b v :=
  ⟨(cell_same e 0).trans h.c0, (cell_same e 1).trans h.c1, (cell_same e 2).trans h.c2, (cell_same e 3).trans h.c3, h.pl.same e⟩

/-- A Struct: the fields v, no place. -/
structure StructAt (w : World) (b : Nat) (v : Value) : Prop where
  c0 : w.cell? ⟨b, 0, none⟩ = some v
  c1 : w.cell? ⟨b, 1, none⟩ = some (.int .i64 0)
  c2 : w.cell? ⟨b, 2, none⟩ = some (.int .i64 0)
  pl : Plain w b

theorem StructAt.same {w w' : World} {b : Nat} {v : Value} (h : StructAt w b v) (e : w'.heap[b]? = w.heap[b]?) : StructAt w' b v :=
  ⟨(cell_same e 0).trans h.c0, (cell_same e 1).trans h.c1, (cell_same e 2).trans h.c2, h.pl.same e⟩

/-- A row that lies at S0 or behind. -/
def RowS (w : World) (v : Value) (S0 m : Nat) (f : Nat → Value) : Prop :=
  ∃ g cap, v = .slice (some ⟨g, 0, none⟩) m cap ∧ S0 ≤ g ∧ g < w.heap.size ∧ m ≤ cap ∧ ∀ i, i < m → w.cell? ⟨g, i, none⟩ = some (f i)

theorem RowS.grw {M : Nat → Prop} {w w' : World} {v : Value} {S0 m : Nat} {f : Nat → Value} (h : RowS w v S0 m f) (g : Grw M w w') (hM : ∀ j, S0 ≤ j → ¬ M j) : RowS w' v S0 m f := by
  obtain ⟨b, cap, h1, h2, h3, h4, h5⟩ := h
  exact ⟨b, cap, h1, h2, Nat.lt_of_lt_of_le h3 g.size, h4, fun i hi => g.cellOf (h5 i hi) (hM b h2)⟩

def namedObj (v : Value) : Obj := .cells #[.string ⟨#[78]⟩, v, .int .i64 0, .int .i64 0] 65
def structObj (v : Value) : Obj := .cells #[v, .int .i64 0, .int .i64 0] 74

theorem namedAt_new (w : World) (v : Value) : NamedAt (w.alloc (namedObj v)) w.heap.size v := by
  unfold namedObj
  have hb := heap_alloc_new w (.cells #[.string ⟨#[78]⟩, v, .int .i64 0, .int .i64 0] 65)
  refine ⟨?_, ?_, ?_, ?_, ⟨_, _, hb⟩⟩ <;> go_simp

theorem structAt_new (w : World) (v : Value) : StructAt (w.alloc (structObj v)) w.heap.size v := by
  unfold structObj
  have hb := heap_alloc_new w (.cells #[v, .int .i64 0, .int .i64 0] 74)
  refine ⟨?_, ?_, ?_, ⟨_, _, hb⟩⟩ <;> go_simp

def ArgsPost (b S0 m : Nat) (x y : Nat → Ky) (I : Nat → World → Prop) (e : Ending) (w' : World) : Prop :=
  ∃ b', e = .returned (fp b') ∧ I m w' ∧ ((∀ j, j < m → y j = x j) → b' = b) ∧ ((∃ j, j < m ∧ y j ≠ x j) → S0 ≤ b' ∧ ∃ v', NamedAt w' b' v' ∧ RowS w' v' S0 m (fun j => (y j).val))

set_option maxRecDepth 100000 in
set_option maxHeartbeats 4000000 in
theorem mapArgs28 (fn q m S0 b : Nat) (hm : m ≤ 100) (x y : Nat → Ky) (v : Value) (I : Nat → World → Prop) (H : MapT fn q m S0 x y v I) (hN : ∀ i w, I i w → NamedAt w b v) (w : World) (h0 : I 0 w) :
    Calls Yba.prog 28 #[fp b, .func (.func fn) #[] #[.pointer (some ⟨q, 0, none⟩)]] w (ArgsPost b S0 m x y I) := by
  have Hall : Hid (Calls Yba.prog 32 #[v, .func (.func fn) #[] #[.pointer (some ⟨q, 0, none⟩)]] w (AllTPost S0 m x y I)) := mapAll32 fn q m S0 hm x y v I H w h0
  have c1 := (hN 0 w h0).c1
  have HN : Hid _ := hN
  have HH : Hid _ := H
  clear h0 hN H
  unfold fp
  go_enter Yba.func28, Yba.ntmps28
  go_wp2_with fail
  refine Calls.mono Hall.out ?_
  rintro e w1 ⟨v', rfl, hI, hys⟩
  have HI : Hid (I m w1) := hI
  clear hI Hall c1
  rcases hys with ⟨hall, rfl⟩ | ⟨hch, hm0, g, cap, rfl, hown⟩
  · have Hn : Hid _ := hall
    clear hall
    go_wp2_with fail
    go_ret
    exact ⟨b, rfl, HI.out, fun _ => rfl, fun ⟨j, h1, h2⟩ => absurd (Hn.out j h1) h2⟩
  · have Hch : Hid _ := hch
    have Hown : Hid _ := hown
    have Hm0 : Hid (0 < m) := hm0
    clear hch hown hm0
    have n0 := (HN.out m w1 HI.out).c0
    have n2 := (HN.out m w1 HI.out).c2
    have n3 := (HN.out m w1 HI.out).c3
    go_wp2_with fail
    go_region
    go_wp2_with fail
    go_ret
    have hst := HH.out.st Hch.out m w1 _ HI.out (((Grw.refl _ w1).alloc (namedObj (.slice (some ⟨g, 0, none⟩) m cap))).drew)
    refine ⟨_, rfl, hst, fun h => ?_, fun _ => ⟨HH.out.sz _ _ HI.out, _, (namedAt_new w1 _).same rfl, ?_⟩⟩
    · obtain ⟨j, h1, h2⟩ := Hch.out
      exact absurd (h j h1) h2
    · obtain ⟨g', cap', h1, h2, h3, h4, h5⟩ := own_cell Hown.out Hm0.out
      exact RowS.grw (M := None') ⟨g', cap', h1, h2, h3, h4, h5⟩ (((Grw.refl _ w1).alloc _).drew) (fun _ _ e => e)

def FieldsPost (b S0 m : Nat) (x : Nat → Nat) (ch : Nat → Prop) (I : Nat → (Nat → Nat) → World → Prop) (e : Ending) (w' : World) : Prop :=
  ∃ b' y, e = .returned (fp b') ∧ I m y w' ∧ ((∀ j, j < m → ¬ ch j) → b' = b) ∧ ((∃ j, j < m ∧ ch j) → S0 ≤ b' ∧ ∃ v', StructAt w' b' v' ∧ RowS w' v' S0 m (fun j => fp (y j)))

set_option maxRecDepth 100000 in
set_option maxHeartbeats 4000000 in
theorem mapFields29 (fn m S0 b : Nat) (caps : Array Value) (hm : m ≤ 100) (x : Nat → Nat) (ch : Nat → Prop) (v : Value) (I : Nat → (Nat → Nat) → World → Prop) (w : World) (H : MapF 34 w.heap.size m S0 x ch v I) (hN : ∀ i y w, I i y w → StructAt w b v) (hw : StructAt w b v) (y0 : Nat → Nat) (h0 : I 0 y0 (w.alloc (.cells #[.func (.func fn) #[] caps] 118))) :
    Calls Yba.prog 29 #[fp b, .func (.func fn) #[] caps] w (FieldsPost b S0 m x ch I) := by
  have Hall : Hid (Calls Yba.prog 33 #[v, .func (.func 34) #[] #[.pointer (some ⟨w.heap.size, 0, none⟩)]] (w.alloc (.cells #[.func (.func fn) #[] caps] 118)) (AllFPost S0 m x ch I)) := mapAll33 34 w.heap.size m S0 hm x ch v I H _ y0 h0
  have lb : b < w.heap.size := hw.pl.lt
  have c1 := hw.c0
  have HN : Hid _ := hN
  have HH : Hid _ := H
  clear h0 hN H hw
  unfold fp
  go_enter Yba.func29, Yba.ntmps29
  go_wp2_with fail
  refine Calls.mono Hall.out ?_
  rintro e w1 ⟨v', y, rfl, hI, hys⟩
  have HI : Hid (I m y w1) := hI
  clear hI Hall c1
  rcases hys with ⟨hall, rfl⟩ | ⟨hch, hm0, g, cap, rfl, hown⟩
  · have Hn : Hid _ := hall
    clear hall
    go_wp2_with fail
    go_ret
    exact ⟨b, y, rfl, HI.out, fun _ => rfl, fun ⟨j, h1, h2⟩ => absurd h2 (Hn.out j h1).1⟩
  · have Hch : Hid _ := hch
    have Hown : Hid _ := hown
    have Hm0 : Hid (0 < m) := hm0
    clear hch hown hm0
    have n1 := (HN.out m y w1 HI.out).c1
    have n2 := (HN.out m y w1 HI.out).c2
    go_wp2_with fail
    go_ret
    have hst := HH.out.st Hch.out m y w1 _ HI.out (((Grw.refl _ w1).alloc (structObj (.slice (some ⟨g, 0, none⟩) m cap))))
    refine ⟨_, y, rfl, hst, fun h => ?_, fun _ => ⟨HH.out.sz _ _ _ HI.out, _, (structAt_new w1 _), ?_⟩⟩
    · obtain ⟨j, h1, h2⟩ := Hch.out
      exact absurd h2 (h j h1)
    · obtain ⟨g', cap', h1, h2, h3, h4, h5⟩ := own_cell Hown.out Hm0.out
      exact RowS.grw (M := None') ⟨g', cap', h1, h2, h3, h4, h5⟩ (((Grw.refl _ w1).alloc _)) (fun _ _ e => e)

set_option maxRecDepth 100000 in
set_option maxHeartbeats 2000000 in
/-- mapParts at a basic type or a parameter: the type itself. -/
theorem mapParts22_leaf (k : Ky) (hk : k.t = 53 ∨ k.t = 45) (f1 f2 f3 : Value) (w : World) : Calls Yba.prog 22 #[k.val, f1, f2, f3] w (fun e w' => e = .returned k.val ∧ w' = w) := by
  obtain ⟨t, b⟩ := k
  simp only at hk
  unfold Ky.val
  rcases hk with rfl | rfl
  · go_enter Yba.func22, Yba.ntmps22
    go_wp2_with fail
    go_ret
    exact ⟨rfl, rfl⟩
  · go_enter Yba.func22, Yba.ntmps22
    go_wp2_with fail
    go_ret
    exact ⟨rfl, rfl⟩

set_option maxRecDepth 100000 in
set_option maxHeartbeats 2000000 in
theorem mapParts22_named (b : Nat) (f1 f2 f3 : Value) (w : World) (P : Nat → World → Prop) (h : Calls Yba.prog 28 #[fp b, f1] w (fun e w' => ∃ b', e = .returned (fp b') ∧ P b' w')) :
    Calls Yba.prog 22 #[(Ky.mk 63 b).val, f1, f2, f3] w (fun e w' => ∃ b', e = .returned (Ky.mk 63 b').val ∧ P b' w') := by
  have H : Hid _ := h
  clear h
  unfold Ky.val
  unfold fp at H
  go_enter Yba.func22, Yba.ntmps22
  go_wp2_with fail
  refine Calls.mono H.out ?_
  rintro e w1 ⟨b', rfl, hp⟩
  go_wp2_with fail
  go_ret
  exact ⟨b', rfl, hp⟩

set_option maxRecDepth 100000 in
set_option maxHeartbeats 2000000 in
theorem mapParts22_struct (b : Nat) (f1 f2 f3 : Value) (w : World) (P : Nat → World → Prop) (h : Calls Yba.prog 29 #[fp b, f2] w (fun e w' => ∃ b', e = .returned (fp b') ∧ P b' w')) :
    Calls Yba.prog 22 #[(Ky.mk 72 b).val, f1, f2, f3] w (fun e w' => ∃ b', e = .returned (Ky.mk 72 b').val ∧ P b' w') := by
  have H : Hid _ := h
  clear h
  unfold Ky.val
  unfold fp at H
  go_enter Yba.func22, Yba.ntmps22
  go_wp2_with fail
  refine Calls.mono H.out ?_
  rintro e w1 ⟨b', rfl, hp⟩
  go_wp2_with fail
  go_ret
  exact ⟨b', rfl, hp⟩
end Go.Proofs.Ybulkbebo
