/- The types that lie in the heap. F: the blocks that stay as they are. -/
import Derived.Test.YbulkbeboMapp
namespace Go.Proofs.Ybulkbebo
open Go.RowKit
open Classical
attribute [local go_sem] neq_func75 neq_func76 neq_nil76 as45_45 as53_45 as63_45 as72_45 as45_63 as53_63 as63_63 as72_63 as45_72 as53_72 as63_72 as72_72 as45_95 as53_95 as63_95 as72_95 eql58_none eql58_some eql66_none eql66_some
set_option linter.unusedSimpArgs false
set_option linter.unusedVariables false

def RowK (F : Nat → Prop) (w : World) (v : Value) (m : Nat) (f : Nat → Value) : Prop :=
  (v = .slice none 0 0 ∧ m = 0) ∨ ∃ g cap, v = .slice (some ⟨g, 0, none⟩) m cap ∧ m ≤ cap ∧ F g ∧ ∀ i, i < m → w.cell? ⟨g, i, none⟩ = some (f i)

structure NamedK (F : Nat → Prop) (w : World) (b m : Nat) (a : Nat → Ky) : Prop where
  fb : F b
  ex : ∃ v, NamedAt w b v ∧ RowK F w v m (fun j => (a j).val)

structure StructK (F : Nat → Prop) (w : World) (b m : Nat) (T V : Nat → Ky) : Prop where
  fb : F b
  ex : ∃ (v : Value) (ps : Nat → Nat), StructAt w b v ∧ RowK F w v m (fun j => fp (ps j)) ∧ ∀ j, j < m → F (ps j) ∧ FieldAt w (ps j) (T j) (V j)

theorem RowK.rowV {F : Nat → Prop} {w : World} {v : Value} {m : Nat} {f : Nat → Value} (h : RowK F w v m f) : RowV w v m f := by
  rcases h with h | ⟨g, cap, h1, h2, _, h4⟩
  · exact .inl h
  · exact .inr ⟨g, cap, h1, h2, h4⟩

theorem RowK.kp {F F' : Nat → Prop} {w w' : World} {v : Value} {m : Nat} {f : Nat → Value} (h : RowK F w v m f) (k : Kp F w w') (hF : ∀ j, F j → F' j) : RowK F' w' v m f := by
  rcases h with h | ⟨g, cap, h1, h2, h3, h4⟩
  · exact .inl h
  · exact .inr ⟨g, cap, h1, h2, hF g h3, fun i hi => (cell_same (k g h3) i).trans (h4 i hi)⟩

theorem RowK.congr {F : Nat → Prop} {w : World} {v : Value} {m : Nat} {f f' : Nat → Value} (h : RowK F w v m f) (e : ∀ i, i < m → f i = f' i) : RowK F w v m f' := by
  rcases h with h | ⟨g, cap, h1, h2, h3, h4⟩
  · exact .inl h
  · exact .inr ⟨g, cap, h1, h2, h3, fun i hi => by rw [← e i hi]; exact h4 i hi⟩

theorem NamedK.kp {F F' : Nat → Prop} {w w' : World} {b m : Nat} {a : Nat → Ky} (h : NamedK F w b m a) (k : Kp F w w') (hF : ∀ j, F j → F' j) : NamedK F' w' b m a := by
  obtain ⟨v, h1, h2⟩ := h.ex
  exact ⟨hF b h.fb, v, h1.same (k b h.fb), h2.kp k hF⟩

theorem StructK.kp {F F' : Nat → Prop} {w w' : World} {b m : Nat} {T V : Nat → Ky} (h : StructK F w b m T V) (k : Kp F w w') (hF : ∀ j, F j → F' j) : StructK F' w' b m T V := by
  obtain ⟨v, ps, h1, h2, h3⟩ := h.ex
  exact ⟨hF b h.fb, v, ps, h1.same (k b h.fb), h2.kp k hF, fun j hj => ⟨hF _ (h3 j hj).1, (h3 j hj).2.same (k _ (h3 j hj).1)⟩⟩

theorem NamedK.congr {F : Nat → Prop} {w : World} {b m : Nat} {a a' : Nat → Ky} (h : NamedK F w b m a) (e : ∀ i, i < m → a i = a' i) : NamedK F w b m a' := by
  obtain ⟨v, h1, h2⟩ := h.ex
  exact ⟨h.fb, v, h1, h2.congr (fun i hi => by simp only [e i hi])⟩

theorem StructK.congr {F : Nat → Prop} {w : World} {b m : Nat} {T V T' V' : Nat → Ky} (h : StructK F w b m T V) (e : ∀ i, i < m → T i = T' i ∧ V i = V' i) : StructK F w b m T' V' := by
  obtain ⟨v, ps, h1, h2, h3⟩ := h.ex
  exact ⟨h.fb, v, ps, h1, h2, fun j hj => ⟨(h3 j hj).1, by rw [← (e j hj).1, ← (e j hj).2]; exact (h3 j hj).2⟩⟩

/-- A row at base or behind, or none. -/
def RowP (w : World) (v : Value) (S0 m : Nat) (f : Nat → Value) : Prop := (v = .slice none 0 0 ∧ m = 0) ∨ RowS w v S0 m f

theorem rowP_of_own {w : World} {base n : Nat} {e : TypeId} {v : Value} {f : Nat → Value} (h : w.ownsRow base e 1 v n (upto f n)) (S0 : Nat) (hS : S0 ≤ base) : RowP w v S0 n f := by
  rcases h.2 with ⟨h1, h0⟩ | ⟨g, cap, cur, hv, hb, hg, hc, hmx, hs, ht⟩
  · exact .inl ⟨h1, h0⟩
  · right
    refine ⟨g, cap, hv, by omega, (h.lt g (by rw [hv]; rfl)).2, hc, fun i hi => ?_⟩
    rw [cell_of_row w g i cur e (0, 0) hg]
    have h1 : (cur.toList.take (n * 1))[i]? = (upto f n)[i]? := by rw [ht]
    rw [List.getElem?_take, if_pos (by omega)] at h1
    rw [← Array.getElem?_toList, h1]
    simp [upto, List.getElem?_range hi]

theorem PsAt.grwM {M : Nat → Prop} {w w' : World} {p base : Nat} {v : Value} {l : List Ky} (h : PsAt w p base v l) (g : Grw M w w') (hp : ¬ M p) (ho : ∀ j, v.ownBlock = some j → ¬ M j) : PsAt w' p base v l := by
  have hl : p < w.heap.size := World.block_lt_of_cell? _ _ h.c0
  exact ⟨g.cellOf h.c0 hp, (g.frozen hl hp).trans h.fr, h.lt, Nat.le_trans h.le g.size, own_same h.own (fun j hj => g.block j (h.own.lt j hj).2 (ho j hj))⟩

def firsts (x : Nat → Ky) (n : Nat) : List Ky := (List.range n).map x
theorem firsts_succ (x : Nat → Ky) (n : Nat) : firsts x (n + 1) = firsts x n ++ [x n] := by simp [firsts, List.range_succ]
theorem firsts_length (x : Nat → Ky) (n : Nat) : (firsts x n).length = n := by simp [firsts]
theorem kvs_firsts (x : Nat → Ky) (n : Nat) : kvs (firsts x n) = upto (fun j => (x j).val) n := by
  simp only [kvs, firsts, upto, List.map_map]; rfl
end Go.Proofs.Ybulkbebo
