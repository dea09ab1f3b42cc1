/- Worlds that part in the blocks of M and in new blocks. -/
import Derived.Test.YbulkbeboWorld
import Derived.Test.YbulkbeboMap
import Derived.Deep.OwnRows
namespace Go.Proofs.Ybulkbebo
open Go.RowKit
open Go.Deep
set_option linter.unusedSimpArgs false
set_option linter.unusedVariables false

structure Grw (M : Nat → Prop) (w w' : World) : Prop where
  os : w'.os = w.os
  tape : w'.tape = w.tape
  output : w'.output = w.output
  size : w.heap.size ≤ w'.heap.size
  block : ∀ j, j < w.heap.size → ¬ M j → w'.heap[j]? = w.heap[j]?

def None' : Nat → Prop := fun _ => False

namespace Grw
variable {M M' : Nat → Prop} {w w' w'' : World}
theorem refl (M : Nat → Prop) (w : World) : Grw M w w := ⟨rfl, rfl, rfl, Nat.le_refl _, fun _ _ _ => rfl⟩

theorem step (h : Grw M w w') (k : Grw M' w' w'') (hM : ∀ j, j < w.heap.size → M' j → M j) : Grw M w w'' :=
  ⟨k.os.trans h.os, k.tape.trans h.tape, k.output.trans h.output, Nat.le_trans h.size k.size,
    fun j hj hn => (k.block j (Nat.lt_of_lt_of_le hj h.size) (fun e => hn (hM j hj e))).trans (h.block j hj hn)⟩

theorem trans (h : Grw M w w') (k : Grw M w' w'') : Grw M w w'' := h.step k (fun _ _ e => e)

theorem mono (h : Grw M w w') (hM : ∀ j, j < w.heap.size → M j → M' j) : Grw M' w w' := (Grw.refl M' w).step h hM

theorem alloc (h : Grw M w w') (o : Obj) : Grw M w (w'.alloc o) :=
  h.trans ⟨rfl, rfl, rfl, by rw [nblk_alloc]; omega, fun j hj _ => blk_alloc_lt _ _ _ hj⟩

theorem drew (h : Grw M w w') : Grw M w w'.drew := ⟨h.os, h.tape, h.output, h.size, h.block⟩

theorem setCell (h : Grw M w w') {a : Addr} (ha : a.block < w.heap.size → M a.block) (v : Value) : Grw M w (w'.setCell a v) :=
  h.step (M' := fun j => j = a.block) ⟨rfl, rfl, rfl, by rw [nblk_setCell]; exact Nat.le_refl _, fun j _ hn => blk_setCell_other _ _ _ _ hn⟩ (fun j hj e => by subst e; exact ha hj)

theorem put (h : Grw M w w') {r : Nat} {o : Obj} (hr : r < w.heap.size → M r) : Grw M w (putObj w' r o) :=
  h.step (M' := fun j => j = r) ⟨rfl, rfl, rfl, by simp [putObj], fun j _ hn => by simp [putObj, Array.getElem?_setIfInBounds, Ne.symm hn]⟩ (fun j hj e => by subst e; exact hr hj)

theorem grown {row : Option Nat} (h : Grw M w w') (k : w'.grownBy w'' row) (hr : ∀ j, row = some j → j < w.heap.size → M j) : Grw M w w'' :=
  h.step (M' := fun j => row = some j) ⟨k.os, k.tape, k.output, k.size, fun j hj hn => k.block j hj (fun e => hn e.symm)⟩ (fun j hj e => hr j e hj)

theorem aft (h : Grw M w w') (x : Aft) : Grw M w (Ybulkbebo.aft w' x) := h.grown (grown_aft w' x none) (by simp)

theorem cell (h : Grw M w w') {b o : Nat} (hb : b < w.heap.size) (hm : ¬ M b) : w'.cell? ⟨b, o, none⟩ = w.cell? ⟨b, o, none⟩ := cell_same (h.block b hb hm) o
theorem frozen (h : Grw M w w') {b o : Nat} (hb : b < w.heap.size) (hm : ¬ M b) : w'.frozen? ⟨b, o, none⟩ = w.frozen? ⟨b, o, none⟩ := frozen_same (h.block b hb hm) o
theorem cellOf (h : Grw M w w') {b o : Nat} {v : Value} (hc : w.cell? ⟨b, o, none⟩ = some v) (hm : ¬ M b) : w'.cell? ⟨b, o, none⟩ = some v :=
  (h.cell (World.block_lt_of_cell? _ _ hc) hm).trans hc

/-- As 'grownBy'. -/
theorem to_grown (h : Grw None' w w') : w.grownBy w' none := ⟨h.os, h.tape, h.output, h.size, fun k hk _ => h.block k hk (fun e => e)⟩
end Grw

/-- The blocks of F are as they were. -/
def Kp (F : Nat → Prop) (w w' : World) : Prop := ∀ j, F j → w'.heap[j]? = w.heap[j]?

theorem Grw.kp {M F : Nat → Prop} {w w' : World} (h : Grw M w w') (hF : ∀ j, F j → j < w.heap.size ∧ ¬ M j) : Kp F w w' := fun j hj => h.block j (hF j hj).1 (hF j hj).2

theorem Plain.lt {w : World} {b : Nat} (h : Plain w b) : b < w.heap.size := by
  obtain ⟨cs, t, h⟩ := h
  rcases Nat.lt_or_ge b w.heap.size with k | k
  · exact k
  · rw [Array.getElem?_eq_none k] at h; cases h

theorem Plain.same {w w' : World} {b : Nat} (h : Plain w b) (e : w'.heap[b]? = w.heap[b]?) : Plain w' b := by
  obtain ⟨cs, t, h⟩ := h
  exact ⟨cs, t, e.trans h⟩

theorem Plain.grw {M : Nat → Prop} {w w' : World} {b : Nat} (h : Plain w b) (g : Grw M w w') (hm : ¬ M b) : Plain w' b := h.same (g.block b h.lt hm)

/-- A counter. -/
structure CntAt (w : World) (c : Nat) (k : Int) : Prop where
  c0 : w.cell? ⟨c, 0, none⟩ = some (.int .i64 k)
  fr : w.frozen? ⟨c, 0, none⟩ = false

theorem CntAt.lt {w : World} {c : Nat} {k : Int} (h : CntAt w c k) : c < w.heap.size := World.block_lt_of_cell? _ _ h.c0
theorem CntAt.grw {M : Nat → Prop} {w w' : World} {c : Nat} {k : Int} (h : CntAt w c k) (g : Grw M w w') (hm : ¬ M c) : CntAt w' c k :=
  ⟨g.cellOf h.c0 hm, (g.frozen h.lt hm).trans h.fr⟩
theorem CntAt.set {w : World} {c : Nat} {k : Int} (h : CntAt w c k) (k' : Int) : CntAt (w.setCell ⟨c, 0, none⟩ (.int .i64 k')) c k' :=
  ⟨World.cell?_setCell_same _ _ _ h.c0, by rw [World.frozen?_setCell]; exact h.fr⟩

/-- The map's pairs as keys. -/
def vals (D : List (Ky × Ky)) : List (Ky × Value) := D.map fun p => (p.1, p.2.val)

theorem Ky.eq_iff (k l : Ky) : (k.t = l.t ∧ k.b = l.b) ↔ k = l := by
  cases k; cases l; simp

def Ky.dec (a b : Ky) : Decidable (a = b) := decidable_of_iff _ (Ky.eq_iff a b)

def lk : List (Ky × Ky) → Ky → Option Ky
  | [], _ => none
  | p :: D, k => @ite _ (k = p.1) (Ky.dec k p.1) (some p.2) (lk D k)

theorem lookD_vals (k : Ky) : ∀ D : List (Ky × Ky), lookD k (vals D) = (lk D k).map Ky.val
  | [] => rfl
  | p :: D => by
    have ih := lookD_vals k D
    show (if k.t = p.1.t ∧ k.b = p.1.b then some p.2.val else lookD k (vals D)) = Option.map Ky.val (lk (p :: D) k)
    unfold lk
    rw [ih]
    by_cases h : k = p.1
    · rw [if_pos ((Ky.eq_iff _ _).2 h), if_pos h]; rfl
    · rw [if_neg (fun e => h ((Ky.eq_iff _ _).1 e)), if_neg h]

theorem lk_append (k : Ky) (q : Ky × Ky) : ∀ D : List (Ky × Ky), lk (D ++ [q]) k = (lk D k).or (@ite _ (k = q.1) (Ky.dec k q.1) (some q.2) none)
  | [] => by simp only [List.nil_append, lk]; split <;> rfl
  | p :: D => by
    have ih := lk_append k q D
    simp only [List.cons_append, lk]
    split
    · rfl
    · exact ih

theorem lk_mem {k v : Ky} : ∀ {D : List (Ky × Ky)}, lk D k = some v → (k, v) ∈ D
  | p :: D, h => by
    unfold lk at h
    split at h
    · rename_i e; subst e; injection h with h; subst h; simp
    · exact List.mem_cons_of_mem _ (lk_mem h)

theorem lk_of_mem {k v : Ky} : ∀ {D : List (Ky × Ky)}, (k, v) ∈ D → ∃ u, lk D k = some u
  | p :: D, h => by
    unfold lk
    by_cases e : k = p.1
    · rw [if_pos e]; exact ⟨_, rfl⟩
    · rw [if_neg e]
      rcases List.mem_cons.1 h with h | h
      · exact absurd (by rw [← h]) e
      · exact lk_of_mem h

/-- The variable dv holds the map at block r, which holds D. -/
structure Mp (w : World) (r : Nat) (D : List (Ky × Ky)) : Prop where
  at' : MapAt w r (vals D)

theorem MapAt.lt {w : World} {r : Nat} {D : List (Ky × Value)} (h : MapAt w r D) : r < w.heap.size := by
  obtain ⟨es, c, h, _⟩ := h.ex
  rcases Nat.lt_or_ge r w.heap.size with k | k
  · exact k
  · rw [Array.getElem?_eq_none k] at h; cases h

theorem MapAt.grw {M : Nat → Prop} {w w' : World} {r : Nat} {D : List (Ky × Value)} (h : MapAt w r D) (g : Grw M w w') (hr : ¬ M r) (hp : ∀ p ∈ D, ¬ M p.1.b) : MapAt w' r D := by
  have hl := h.lt
  obtain ⟨es, c, he, hh⟩ := h.ex
  exact ⟨⟨es, c, (g.block r hl hr).trans he, hh⟩, fun p hpD => (h.pl p hpD).grw g (hp p hpD)⟩

theorem MapAt.add {w : World} {r : Nat} {D : List (Ky × Value)} (h : MapAt w r D) {es : Array MapEntry} {c : Nat} {k : Ky} {v : Value} (hh : Holds es.toList (D ++ [(k, v)])) (hk : Plain w k.b) (hkr : k.b ≠ r) (hDr : ∀ p ∈ D, p.1.b ≠ r) : MapAt (putObj w r (.map es c)) r (D ++ [(k, v)]) := by
  have hl := h.lt
  refine ⟨⟨es, c, by simp [putObj, Array.getElem?_setIfInBounds, hl], hh⟩, fun p hp => ?_⟩
  have hne : p.1.b ≠ r := by
    rcases List.mem_append.1 hp with hp | hp
    · exact hDr p hp
    · simp at hp; subst hp; exact hkr
  have hpl : Plain w p.1.b := by
    rcases List.mem_append.1 hp with hp | hp
    · exact h.pl p hp
    · simp at hp; subst hp; exact hk
  exact hpl.same (by simp [putObj, Array.getElem?_setIfInBounds, Ne.symm hne])
end Go.Proofs.Ybulkbebo
