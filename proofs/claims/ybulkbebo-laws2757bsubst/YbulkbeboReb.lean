/- The law's Param closure; rebuild. -/
import Derived.Test.YbulkbeboParts
namespace Go.Proofs.Ybulkbebo
open Go.RowKit
open Classical
attribute [local go_sem] neq_func75 neq_func76 neq_nil76 as45_45 as53_45 as63_45 as72_45 as45_63 as53_63 as63_63 as72_63 as45_72 as53_72 as63_72 as72_72 as45_95 as53_95 as63_95 as72_95 eql58_none eql58_some eql66_none eql66_some
set_option linter.unusedSimpArgs false
set_option linter.unusedVariables false

/-- A variable that holds a row of three. -/
structure Three (w : World) (v r : Nat) (f : Nat → Value) : Prop where
  c : w.cell? ⟨v, 0, none⟩ = some (.slice (some ⟨r, 0, none⟩) 3 3)
  e : ∀ i, i < 3 → w.cell? ⟨r, i, none⟩ = some (f i)

theorem Three.grw {M : Nat → Prop} {w w' : World} {v r : Nat} {f : Nat → Value} (h : Three w v r f) (g : Grw M w w') (hv : ¬ M v) (hr : ¬ M r) : Three w' v r f :=
  ⟨g.cellOf h.c hv, fun i hi => g.cellOf (h.e i hi) hr⟩

/-- The row of the counts of the calls. -/
structure CallsAt (w : World) (cr : Nat) (f : Nat → Int) : Prop where
  e : ∀ i, i < 3 → w.cell? ⟨cr, i, none⟩ = some (.int .i64 (f i))
  fr : ∀ i, i < 3 → w.frozen? ⟨cr, i, none⟩ = false
  b0 : ∀ i, i < 3 → 0 ≤ f i ∧ f i ≤ 100000

theorem CallsAt.lt {w : World} {cr : Nat} {f : Nat → Int} (h : CallsAt w cr f) : cr < w.heap.size := World.block_lt_of_cell? _ _ (h.e 0 (by omega))
theorem CallsAt.grw {M : Nat → Prop} {w w' : World} {cr : Nat} {f : Nat → Int} (h : CallsAt w cr f) (g : Grw M w w') (hr : ¬ M cr) : CallsAt w' cr f :=
  ⟨fun i hi => g.cellOf (h.e i hi) hr, fun i hi => (g.frozen h.lt hr).trans (h.fr i hi), h.b0⟩

def bump (f : Nat → Int) (k : Nat) : Nat → Int := fun i => if i = k then f i + 1 else f i

theorem CallsAt.set {w : World} {cr : Nat} {f : Nat → Int} (h : CallsAt w cr f) (k : Nat) (hk : k < 3) (hb : f k < 100000) : CallsAt (w.setCell ⟨cr, k, none⟩ (.int .i64 (f k + 1))) cr (bump f k) := by
  refine ⟨fun i hi => ?_, fun i hi => by rw [World.frozen?_setCell]; exact h.fr i hi, fun i hi => ?_⟩
  · unfold bump
    by_cases e : i = k
    · subst e
      rw [if_pos rfl]
      exact World.cell?_setCell_same _ _ _ (h.e i hi)
    · rw [if_neg e, World.cell?_setCell_other _ _ _ _ (by simp [Ne.symm e])]
      exact h.e i hi
  · have := h.b0 i hi
    unfold bump
    split
    · rename_i e; subst e; omega
    · exact this

def ParR (w : World) (k : Nat) (g : Nat) (vi : Value) (wr : World) : Prop := ∃ i, i ≤ k ∧ g = k - i ∧ vi = .int .i64 (i : Int) ∧ wr = w

set_option maxRecDepth 100000 in
set_option maxHeartbeats 4000000 in
theorem param11 (w : World) (pv pr cv cr tv tr : Nat) (pool tgt : Nat → Nat) (f : Nat → Int) (k : Nat) (hk : k < 3) (hp : Three w pv pr (fun i => fp (pool i))) (hpl : ∀ i, i < 3 → Plain w (pool i)) (hinj : ∀ i, i < 3 → pool i = pool k → i = k)
    (ht : Three w tv tr (fun i => fp (tgt i))) (hc : w.cell? ⟨cv, 0, none⟩ = some (.slice (some ⟨cr, 0, none⟩) 3 3)) (hcs : CallsAt w cr f) (hb : f k < 100000) (htc : tv ≠ cr ∧ tr ≠ cr) :
    Calls Yba.prog 11 #[fp (pool k), fp pv, fp cv, fp tv] w (fun e w' => e = .returned (Ky.mk 53 (tgt k)).val ∧ Grw (fun j => j = cr) w w' ∧ CallsAt w' cr (bump f k)) := by
  have Hp : Hid _ := hp
  have Hcs : Hid _ := hcs
  have Hpl : Hid _ := hpl
  have Hinj : Hid _ := hinj
  have pc := hp.c
  have tc := ht.c
  have tk := ht.e k hk
  have ck := hcs.e k hk
  have cf := hcs.fr k hk
  have hset : Hid (CallsAt (w.setCell ⟨cr, k, none⟩ (.int .i64 (f k + 1))) cr (bump f k)) := hcs.set k hk hb
  have hb0 := (hcs.b0 k hk).1
  have htc1 := htc.1
  have htc2 := htc.2
  clear hp ht hcs hpl hinj htc
  generalize f k = fk at *
  generalize hpk : pool k = pk at *
  have Hpk : Hid (pool k = pk) := hpk
  clear hpk
  unfold Ky.val
  unfold fp
  unfold fp at tk
  go_enter Yba.func11, Yba.ntmps11
  go_wp2_with fail
  go_loopg [6] k (fun g vi wr => ParR w k g vi wr)
  case atStart => exact ⟨0, Nat.zero_le _, by simp, rfl, rfl⟩
  case round =>
    obtain ⟨i, hi, hg, rfl, rfl⟩ := hrel
    have Hg : Hid _ := hg
    clear hg
    have pi := Hp.out.e i (by omega)
    simp only [fp] at pi
    have he := eql_param wr pk (pool i) (Hpk.out ▸ Hpl.out k hk) (Hpl.out i (by omega))
    have hi3 : i < 3 := by omega
    by_cases hik : i = k
    · subst hik
      rw [decide_eq_true Hpk.out.symm] at he
      generalize pool i = pii at *
      go_wp2_with fail
      go_ret
      exact ⟨rfl, (Grw.refl (fun j => j = cr) wr).setCell (a := ⟨cr, i, none⟩) (fun _ => rfl) _, hset.out⟩
    · rw [decide_eq_false (fun e => hik (Hinj.out i (by omega) e.symm))] at he
      have Hik : Hid _ := hik
      generalize pool i = pii at *
      go_wp2_with fail
      go_roundg (k - (i + 1))
      case measure => rw [Hg.out]; omega
      case rel => exact ⟨i + 1, by omega, rfl, by go_num, rfl⟩
def rwv (pval : Value) (ac : Nat) : Value := .agg #[pval, .func (.func 10) #[] #[fp ac], .nilFunc]

/-- The world at rebuild's call of mapParts. -/
def rebW (w : World) (pval : Value) (ac r : Nat) : World :=
  (((w.alloc (.cells #[pval, .func (.func 10) #[] #[fp ac], .nilFunc] 79)).alloc (.cells #[.map (some r)] 93)).alloc (.cells #[.func (.func 25) #[] #[fp (w.heap.size + 1)]] 80)).alloc (.cells #[.func (.func 26) #[] #[fp (w.heap.size + 1), fp w.heap.size]] 118)

def rebArgs (w : World) (k : Ky) : Array Value :=
  #[k.val, .func (.func 25) #[] #[fp (w.heap.size + 1)], .func (.func 26) #[] #[fp (w.heap.size + 1), fp w.heap.size], .func (.func 27) #[] #[fp (w.heap.size + 1), fp (w.heap.size + 1 + 1), fp (w.heap.size + 1 + 1 + 1), fp w.heap.size]]

set_option maxRecDepth 100000 in
set_option maxHeartbeats 4000000 in
theorem rebuild_of (w : World) (k : Ky) (pval : Value) (ac r : Nat) (hk : (k.t = 53 ∨ k.t = 63 ∨ k.t = 72) ∨ (k.t = 45 ∧ pval = .nilFunc)) (Q : Value → World → Prop)
    (H : Calls Yba.prog 22 (rebArgs w k) (rebW w pval ac r) (fun e w' => ∃ v, e = .returned v ∧ Q v w')) :
    Calls Yba.prog 18 #[rwv pval ac, k.val, .map (some r)] w (fun e w' => ∃ v, e = .returned v ∧ Q v w') := by
  have H1 : Hid _ := H
  clear H
  unfold rebArgs rebW at H1
  unfold rwv
  unfold fp at H1 ⊢
  unfold Ky.val at H1 ⊢
  obtain ⟨t, b⟩ := k
  simp only at *
  rcases hk with (rfl | rfl | rfl) | ⟨rfl, rfl⟩ <;>
  · go_enter Yba.func18, Yba.ntmps18
    go_wp2_with fail
    refine Calls.mono H1.out ?_
    rintro e w1 ⟨v, rfl, hq⟩
    go_wp2_with fail
    go_ret
    exact ⟨v, rfl, hq⟩

set_option maxRecDepth 100000 in
set_option maxHeartbeats 4000000 in
theorem rebuild_param (w : World) (b ac r : Nat) (caps : Array Value) (Q : Value → World → Prop)
    (H : ∀ W, Grw None' w W → Calls Yba.prog 11 (#[fp b] ++ caps) W (fun e w' => ∃ v, e = .returned v ∧ Q v w')) :
    Calls Yba.prog 18 #[rwv (.func (.func 11) #[] caps) ac, (Ky.mk 45 b).val, .map (some r)] w (fun e w' => ∃ v, e = .returned v ∧ Q v w') := by
  have H1 : Hid _ := H _ (((Grw.refl _ w).alloc (.cells #[.func (.func 11) #[] caps, .func (.func 10) #[] #[fp ac], .nilFunc] 79)).alloc (.cells #[.map (some r)] 93))
  clear H
  unfold rwv
  unfold fp at H1 ⊢
  unfold Ky.val
  go_enter Yba.func18, Yba.ntmps18
  go_wp2_with fail
  refine Calls.mono H1.out ?_
  rintro e w1 ⟨v, rfl, hq⟩
  go_wp2_with fail
  go_ret
  exact ⟨v, rfl, hq⟩
end Go.Proofs.Ybulkbebo
