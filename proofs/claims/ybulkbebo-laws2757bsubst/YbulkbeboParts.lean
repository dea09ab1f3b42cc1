/- parts. -/
import Derived.Test.YbulkbeboDag
import Derived.Laws.EntriesVeiled
namespace Go.Proofs.Ybulkbebo
open Go.RowKit
open Classical
attribute [local go_sem] neq_func75 neq_func76 neq_nil76 as45_45 as53_45 as63_45 as72_45 as45_63 as53_63 as63_63 as72_63 as45_72 as53_72 as63_72 as72_72 as45_95 as53_95 as63_95 as72_95 eql58_none eql58_some eql66_none eql66_some
set_option linter.unusedSimpArgs false
set_option linter.unusedVariables false

theorem en20 (args : Array Value) (w : World) : (callFunc 20 args).run Yba.prog w = .ok (.enter 20 args) w := by go_simp
theorem en21 (args : Array Value) (w : World) : (callFunc 21 args).run Yba.prog w = .ok (.enter 21 args) w := by go_simp
theorem en25 (args : Array Value) (w : World) : (callFunc 25 args).run Yba.prog w = .ok (.enter 25 args) w := by go_simp
theorem en26 (args : Array Value) (w : World) : (callFunc 26 args).run Yba.prog w = .ok (.enter 26 args) w := by go_simp
theorem en34 (args : Array Value) (w : World) : (callFunc 34 args).run Yba.prog w = .ok (.enter 34 args) w := by go_simp

def PartsPost (w : World) (n : Nat) (z : Nat → Ky) (e : Ending) (w' : World) : Prop :=
  ∃ v', e = .returned v' ∧ Grw None' w w' ∧ RowP w' v' w.heap.size n (fun j => (z j).val)

/-- What mapParts does under parts' closures: the variable p holds the parts. -/
def MidP (W : World) (p n : Nat) (z : Nat → Ky) (w' : World) : Prop :=
  ∃ base v', Grw (fun j => j = p) W w' ∧ p < base ∧ PsAt w' p base v' (firsts z n)

set_option maxRecDepth 100000 in
set_option maxHeartbeats 2000000 in
theorem parts17_of (k : Ky) (w : World) (n : Nat) (z : Nat → Ky)
    (H : ∀ W, Grw None' w W → W.heap.size = w.heap.size + 3 → PsAt W w.heap.size (w.heap.size + 3) (.slice none 0 0) [] →
      Calls Yba.prog 22 #[k.val, .func (.func 20) #[] #[.pointer (some ⟨w.heap.size, 0, none⟩)], .func (.func 21) #[] #[.pointer (some ⟨w.heap.size, 0, none⟩)], .func (.func 23) #[] #[.pointer (some ⟨w.heap.size + 1, 0, none⟩), .pointer (some ⟨w.heap.size + 1 + 1, 0, none⟩)]] W (fun e w' => (∃ r, e = .returned r) ∧ MidP W w.heap.size n z w')) :
    Calls Yba.prog 17 #[k.val] w (PartsPost w n z) := by
  have H1 : Hid _ := H ((((w.alloc (.cells #[.slice none 0 0] 58)).alloc (.cells #[.func (.func 20) #[] #[.pointer (some ⟨w.heap.size, 0, none⟩)]] 80)).alloc (.cells #[.func (.func 21) #[] #[.pointer (some ⟨w.heap.size, 0, none⟩)]] 118))) ((((Grw.refl _ w).alloc _).alloc _).alloc _) (by simp only [World.alloc, Array.size_push]) ⟨by go_simp, by go_simp, by omega, by simp only [World.alloc, Array.size_push]; omega, ⟨rfl, .inl ⟨rfl, rfl⟩⟩⟩
  clear H
  unfold Ky.val at H1 ⊢
  go_enter Yba.func17, Yba.ntmps17
  go_wp2_with fail
  refine Calls.mono H1.out ?_
  rintro e w1 ⟨⟨r, rfl⟩, base, v', hg, hb, hp⟩
  have c0 := hp.c0
  have Hg : Hid _ := hg
  have Hp : Hid _ := hp
  clear hg hp H1
  go_wp2_with fail
  go_ret
  refine ⟨v', rfl, ((((Grw.refl _ w).alloc _).alloc _).alloc _).step Hg.out (fun j h1 h2 => by omega), ?_⟩
  have ho := Hp.out.own
  rw [firsts_length, kvs_firsts] at ho
  exact rowP_of_own ho _ (by omega)
theorem parts_leaf (k : Ky) (hk : k.t = 53 ∨ k.t = 45) (w : World) (z : Nat → Ky) : Calls Yba.prog 17 #[k.val] w (PartsPost w 0 z) := by
  refine parts17_of k w 0 z (fun W g hs hp => Calls.mono (mapParts22_leaf k hk _ _ _ W) ?_)
  rintro e w' ⟨rfl, rfl⟩
  exact ⟨⟨_, rfl⟩, w.heap.size + 3, _, Grw.refl _ _, by omega, hp⟩

def InT (W : World) (p base : Nat) (x : Nat → Ky) (i : Nat) (w' : World) : Prop := Grw (fun j => j = p) W w' ∧ ∃ v', PsAt w' p base v' (firsts x i)

theorem parts_named (b m : Nat) (hm : m ≤ 50) (x : Nat → Ky) (v : Value) (w : World) (hN : NamedAt w b v) (hr : RowV w v m (fun j => (x j).val)) (hx : ∀ j, j < m → (x j).ok ∧ Plain w (x j).b) :
    Calls Yba.prog 17 #[(Ky.mk 63 b).val] w (PartsPost w m x) := by
  refine parts17_of ⟨63, b⟩ w m x (fun W g hs hp => ?_)
  have gI : ∀ {i w'}, InT W w.heap.size (w.heap.size + 3) x i w' → Grw None' w w' := fun h => g.step h.1 (fun j h1 h2 => by omega)
  have hno : ¬ ∃ j, j < m ∧ x j ≠ x j := fun ⟨j, _, h⟩ => h rfl
  have H : MapT 20 w.heap.size m 0 x x v (InT W w.heap.size (w.heap.size + 3) x) := by
    refine ⟨fun i w' h => ?_, fun i w' h j hj => ?_, fun i w' hi h => ?_, fun h => absurd h hno, fun i w' h => Nat.zero_le _, en20⟩
    · rcases hr with h1 | ⟨g1, cap, h1, h2, h3⟩
      · exact .inl h1
      · exact .inr ⟨g1, cap, h1, h2, fun i hi => (gI h).cellOf (h3 i hi) (fun e => e)⟩
    · have h1 := hx j hj
      have h2 := h1.2.grw (gI h) (fun e => e)
      exact ⟨h1.1, h2, h1.1, h2⟩
    · obtain ⟨h1, v', h2⟩ := h
      refine Calls.mono (typ20_any w' _ _ v' (firsts x i) (x i) h2 (by rw [firsts_length]; omega)) ?_
      rintro e w2 ⟨rfl, g2, v2, p2, _⟩
      refine ⟨rfl, ⟨h1.step g2 (fun j h3 h4 => ?_), v2, by rw [firsts_succ]; exact p2⟩, fun h => absurd h hno⟩
      rcases h4 with h4 | h4
      · exact h4
      · have := (h2.own.lt j h4).1; omega
  refine Calls.mono (mapParts22_named b _ _ _ W _ (Calls.mono (mapArgs28 20 w.heap.size m 0 b (by omega) x x v _ H (fun i w' h => hN.same ((gI h).block b hN.pl.lt (fun e => e))) W ⟨Grw.refl _ _, _, hp⟩) (fun e w' h => h))) ?_
  rintro e w' ⟨b', rfl, h1, _⟩
  obtain ⟨g1, v', h2⟩ := h1
  exact ⟨⟨_, rfl⟩, _, v', g1, by omega, h2⟩

/-- The types of the fields in a row. -/
theorem firsts_two (z : Nat → Ky) (i : Nat) : firsts z (2 * (i + 1)) = firsts z (2 * i) ++ [z (2 * i), z (2 * i + 1)] := by
  rw [show 2 * (i + 1) = 2 * i + 1 + 1 from by omega, firsts_succ, firsts_succ, List.append_assoc]
  rfl

def upd (y : Nat → Nat) (i v : Nat) : Nat → Nat := fun j => if j = i then v else y j
theorem upd_same (y : Nat → Nat) (i v : Nat) : upd y i v i = v := if_pos rfl
theorem upd_other (y : Nat → Nat) {i j : Nat} (v : Nat) (h : j ≠ i) : upd y i v j = y j := if_neg h

def InF (W : World) (m p q base : Nat) (z : Nat → Ky) (ps : Nat → Nat) (i : Nat) (y : Nat → Nat) (w' : World) : Prop :=
  i ≤ m ∧ Grw (fun j => j = p) W w' ∧ (∀ j, j < i → y j = ps j) ∧ w'.cell? ⟨q, 0, none⟩ = some (.func (.func 21) #[] #[.pointer (some ⟨p, 0, none⟩)]) ∧ ∃ v', PsAt w' p base v' (firsts z (2 * i))

theorem parts_struct (b m : Nat) (hm : m ≤ 40) (z : Nat → Ky) (ps : Nat → Nat) (v : Value) (w : World) (hN : StructAt w b v) (hr : RowV w v m (fun j => fp (ps j))) (hf : ∀ j, j < m → FieldAt w (ps j) (z (2 * j)) (z (2 * j + 1))) (hx : ∀ j, j < 2 * m → (z j).ok ∧ Plain w (z j).b) :
    Calls Yba.prog 17 #[(Ky.mk 72 b).val] w (PartsPost w (2 * m) z) := by
  refine parts17_of ⟨72, b⟩ w (2 * m) z (fun W g hs hp => ?_)
  obtain ⟨p, hpe⟩ : ∃ p, p = w.heap.size := ⟨_, rfl⟩
  obtain ⟨q, hqe⟩ : ∃ q, q = W.heap.size := ⟨_, rfl⟩
  have gI : ∀ {i y w'}, InF W m p q (q + 1) z ps i y w' → Grw None' w w' := fun h => g.step h.2.1 (fun j h1 h2 => by omega)
  have H : MapF 34 q m 0 ps (fun _ => False) v (InF W m p q (q + 1) z ps) := by
    refine ⟨fun i y w' h => ?_, fun i y w' h => ⟨fun j hj => ?_, fun j hj => ?_⟩, fun i y w' hi h => ?_, fun ⟨_, _, h⟩ => h.elim, fun i y w' h => Nat.zero_le _, en34⟩
    · rcases hr with h1 | ⟨g1, cap, h1, h2, h3⟩
      · exact .inl h1
      · exact .inr ⟨g1, cap, h1, h2, fun i hi => (gI h).cellOf (h3 i hi) (fun e => e)⟩
    · exact (hf j hj).pl.grw (gI h) (fun e => e)
    · have hjm : j < m := Nat.lt_of_lt_of_le hj h.1
      rw [h.2.2.1 j hj]
      exact (hf j hjm).pl.grw (gI h) (fun e => e)
    · have hgi := gI h
      obtain ⟨h0, h1, h2, h3, v', h4⟩ := h
      have hown := h4.own.lt
      have hlt := h4.lt
      have hle := h4.le
      have hfi := (hf i hi).same (hgi.block _ (hf i hi).pl.lt (fun e => e))
      have key : ∀ j, j < 2 * m → KyIn w' (fun j => j = p ∨ v'.ownBlock = some j) (z j) := fun j hj => by
        have hpl := (hx j hj).2
        refine ⟨(hx j hj).1, hpl.grw hgi (fun e => e), fun e => ?_⟩
        have hl := hpl.lt
        rcases e with e | e
        · omega
        · have := (hown _ e).1; omega
      have hcall := field34 21 q (ps i) #[.pointer (some ⟨p, 0, none⟩)] (z (2 * i)) (z (2 * i + 1)) (z (2 * i)) (z (2 * i + 1)) w' (fun j => j = p ∨ v'.ownBlock = some j)
        (fun W' w1 => ∃ v2, PsAt w1 p (q + 1) v2 (firsts z (2 * (i + 1))) ∧ ∀ j, v2.ownBlock = some j → v'.ownBlock = some j ∨ W'.heap.size ≤ j)
        (fun w1 => ∃ v2, PsAt w1 p (q + 1) v2 (firsts z (2 * (i + 1)))) en21 h3 hfi ?_ ?_ (key _ (by omega)) (key _ (by omega)) (key _ (by omega)) (key _ (by omega)) ?_ ?_
      · refine Calls.mono hcall ?_
        rintro e w2 ⟨f', rfl, g2, q2, _, hsame, _⟩
        obtain rfl := hsame ⟨rfl, rfl⟩
        refine ⟨upd y i (ps i), fun j hj => upd_other y _ (by omega), by rw [upd_same], ⟨by omega, ?_, ?_, ?_, q2⟩, ⟨fun _ => id, fun _ => upd_same _ _ _⟩, fun ⟨_, _, h⟩ => h.elim⟩
        · refine h1.step g2 (fun j h5 h6 => ?_)
          rcases h6 with h6 | h6
          · exact h6
          · have := (hown j h6).1; omega
        · intro j hj
          by_cases hji : j = i
          · rw [hji, upd_same]
          · rw [upd_other y _ hji]; exact h2 j (by omega)
        · refine g2.cellOf h3 (fun e => ?_)
          rcases e with e | e
          · omega
          · have := (hown q e).1; omega
      · intro e
        have hl := (hf i hi).pl.lt
        rcases e with e | e
        · omega
        · have := (hown _ e).1; omega
      · intro j e
        rcases e with e | e
        · omega
        · exact (hown j e).2
      · intro W' gW
        have h5 := h4.grw gW
        refine Calls.mono (annot21_any W' p (q + 1) v' (firsts z (2 * i)) (z (2 * i)) (z (2 * i + 1)) h5 (by rw [firsts_length]; omega)) ?_
        rintro e w1 ⟨rfl, g1, v2, p2, o2⟩
        exact ⟨rfl, g1, v2, by rw [firsts_two]; exact p2, o2⟩
      · rintro W' w1 w2 gW ⟨v2, p2, o2⟩ g2
        refine ⟨v2, p2.grwM g2 (fun e => ?_) (fun j hj e => ?_)⟩
        · omega
        · rcases o2 j hj with h6 | h6
          · have := (hown j h6).2; omega
          · omega
  have hsz := (Grw.refl None' W).alloc (.cells #[.func (.func 21) #[] #[.pointer (some ⟨p, 0, none⟩)]] 118)
  have h0 : InF W m p q (q + 1) z ps 0 ps (W.alloc (.cells #[.func (.func 21) #[] #[.pointer (some ⟨p, 0, none⟩)]] 118)) := by
    refine ⟨Nat.zero_le _, (Grw.refl _ W).alloc _, fun j hj => absurd hj (by omega), by rw [hqe]; go_simp, .slice none 0 0, ?_⟩
    have hl : p < W.heap.size := by omega
    rw [← hpe] at hp
    refine ⟨hsz.cellOf hp.c0 (fun e => e), (hsz.frozen hl (fun e => e)).trans hp.fr, by omega, by rw [hqe]; simp only [World.alloc, Array.size_push]; omega, ⟨rfl, .inl ⟨rfl, rfl⟩⟩⟩
  rw [← hpe]
  rw [hqe] at H h0
  refine Calls.mono (mapParts22_struct b _ _ _ W (fun _ w' => ∃ y, InF W m p W.heap.size (W.heap.size + 1) z ps m y w') (Calls.mono (mapFields29 21 m 0 b #[.pointer (some ⟨p, 0, none⟩)] (by omega) ps (fun _ => False) v _ W H (fun i y w' h => hN.same ((g.step h.2.1 (fun j h1 h2 => by omega) : Grw None' w w').block b hN.pl.lt (fun e => e))) (hN.same (g.block b hN.pl.lt (fun e => e))) ps h0) (fun e w' h => by obtain ⟨b', y, h1, h2, _⟩ := h; exact ⟨b', h1, y, h2⟩))) ?_
  rintro e w' ⟨b', rfl, y, h1⟩
  obtain ⟨_, g1, _, _, v', h2⟩ := h1
  exact ⟨⟨_, rfl⟩, _, v', g1, by omega, h2⟩
end Go.Proofs.Ybulkbebo
