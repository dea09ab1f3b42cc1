/- A region that draws its order, by an invariant over the operations that have been carried out so far. -/
import Derived.Test.YbulkbeeuRows
import Derived.WalkKit
import Derived.Still
namespace Go.Proofs.Ybulkbeeu

def left (l : List Bool) : Nat := (l.filter fun b => !b).length

theorem left_set : ∀ (l : List Bool) (i : Nat), l[i]? = some false → left (l.set i true) + 1 = left l
  | [], i, h => by simp at h
  | b :: l, 0, h => by simp at h; subst h; simp [left]
  | b :: l, i + 1, h => by
    have := left_set l i (by simpa using h)
    cases b <;> simp [left] at * <;> omega

theorem all_of_left : ∀ (l : List Bool), left l = 0 → ∀ i, i < l.length → l[i]? = some true
  | [], _, i, h => by simp at h
  | b :: l, h0, i, h => by
    cases b
    · simp [left] at h0
    · cases i with
      | zero => rfl
      | succ i => simpa using all_of_left l (by simpa [left] using h0) i (by simpa using h)

section
variable {P : Program} {ops : Array Oper} {Q : Exit → Act → World → Prop} {md : Region.Mode} {J : Array Bool → Act → World → Prop}

theorem all_listed {L : Array Bool} (hs : L.size = ops.size) (hlex : ∀ (i : Nat) (o : Oper), ops[i]? = some o → ∀ e ∈ o.after, e.on < i) (h : Region.ready md ops L = []) : ∀ i, i < ops.size → L.getD i false = true := by
  intro i
  induction i using Nat.strongRecOn with
  | _ i ih =>
    intro hi
    cases hL : L.getD i true with
    | true => simp [Array.getD, hs, hi] at hL ⊢; exact hL
    | false =>
      have : i ∈ Region.ready md ops L := mem_ready.2 ⟨hL, ops[i], Array.getElem?_eq_getElem hi, fun e he _ => ih e.on (hlex i _ (Array.getElem?_eq_getElem hi) e he) (by have := hlex i _ (Array.getElem?_eq_getElem hi) e he; omega)⟩
      rw [h] at this
      cases this

theorem wpAny_inv (hlex : ∀ (i : Nat) (o : Oper), ops[i]? = some o → ∀ e ∈ o.after, e.on < i)
    (hstep : ∀ (L : Array Bool) (a : Act) (w : World) (i : Nat) (o : Oper), L.size = ops.size → ops[i]? = some o → L.getD i true = false → (∀ e ∈ o.after, Region.binds md e = true → L.getD e.on false = true) → J L a w →
      if Region.wanted o (yielded ops a.tmps) = true then o.wp P a w (J (L.setIfInBounds i true)) Q else J (L.setIfInBounds i true) (a.put o.dst undef) w)
    (hend : ∀ (L : Array Bool) (a : Act) (w : World), L.size = ops.size → (∀ i, i < ops.size → L.getD i false = true) → J L a w → Q .normal a w) :
    ∀ (fuel : Nat) (L : Array Bool) (a : Act) (w : World), L.size = ops.size → left L.toList ≤ fuel → J L a w → wpAny P md ops Q fuel L a w
  | 0, L, a, w, hs, hf, hJ => by
    have hall := all_of_left L.toList (by omega)
    have hr : Region.ready md ops L = [] := by
      cases hr : Region.ready md ops L with
      | nil => rfl
      | cons i l =>
        have hi : i ∈ Region.ready md ops L := by rw [hr]; simp
        obtain ⟨h1, o, ho, _⟩ := mem_ready.1 hi
        have hlt : i < L.size := by have := (Array.getElem?_eq_some_iff.1 ho).1; omega
        have := hall i (by simpa using hlt)
        simp [hlt] at this
        simp [Array.getD, hlt, this] at h1
    exact ⟨hr, hend L a w hs (all_listed hs hlex hr) hJ⟩
  | fuel + 1, L, a, w, hs, hf, hJ => by
    refine ⟨fun hr => hend L a w hs (all_listed hs hlex hr) hJ, fun i hi => ?_⟩
    obtain ⟨h1, o, ho, h2⟩ := mem_ready.1 hi
    have hlt : i < L.size := by have := (Array.getElem?_eq_some_iff.1 ho).1; omega
    have hL : L.toList[i]? = some false := by simp [Array.getD, hlt] at h1; simp [hlt, h1]
    have hl := left_set L.toList i hL
    refine wpOp_step ho (fun K' hK => ?_)
    have h3 := hstep L a w i o hs ho h1 h2 hJ
    have hgo : ∀ a' w', J (L.setIfInBounds i true) a' w' → K' a' w' := fun a' w' hJ' => hK _ _ (wpAny_inv hlex hstep hend fuel _ a' w' (by simpa using hs) (by simp; omega) hJ')
    split
    · rename_i hw; rw [if_pos hw] at h3; exact Oper.wp_mono hgo h3
    · rename_i hw; rw [if_neg hw] at h3; exact hgo _ _ h3

theorem wp_region_inv {id : Nat} {a : Act} {w : World} (hm : P.follows .mixedOrders = true) (hlex : ∀ (i : Nat) (o : Oper), ops[i]? = some o → ∀ e ∈ o.after, e.on < i)
    (h0 : J (Array.replicate ops.size false) a w.drew)
    (hstep : ∀ (L : Array Bool) (a : Act) (w : World) (i : Nat) (o : Oper), L.size = ops.size → ops[i]? = some o → L.getD i true = false → (∀ e ∈ o.after, Region.binds .any e = true → L.getD e.on false = true) → J L a w →
      if Region.wanted o (yielded ops a.tmps) = true then o.wp P a w (J (L.setIfInBounds i true)) Q else J (L.setIfInBounds i true) (a.put o.dst undef) w)
    (hend : ∀ (L : Array Bool) (a : Act) (w : World), L.size = ops.size → (∀ i, i < ops.size → L.getD i false = true) → J L a w → Q .normal a w) : (Code.region id ops true).wp P Q a w :=
  wp_region_any hm (wpAny_inv hlex hstep hend ops.size _ a w.drew (by simp) (by
    have : ∀ n, left (List.replicate n false) = n := by intro n; simp [left]
    simp [this]) h0)
end
end Go.Proofs.Ybulkbeeu
