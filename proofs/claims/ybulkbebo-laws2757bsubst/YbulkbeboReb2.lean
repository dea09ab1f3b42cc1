/- rebuild at the kinds of types. -/
import Derived.Test.YbulkbeboReb
namespace Go.Proofs.Ybulkbebo
open Go.RowKit
open Classical
attribute [local go_sem] neq_func75 neq_func76 neq_nil76 as45_45 as53_45 as63_45 as72_45 as45_63 as53_63 as63_63 as72_63 as45_72 as53_72 as63_72 as72_72 as45_95 as53_95 as63_95 as72_95 eql58_none eql58_some eql66_none eql66_some
set_option linter.unusedSimpArgs false
set_option linter.unusedVariables false

def More (F : Nat → Prop) (w w' : World) : Nat → Prop := fun j => F j ∨ (w.heap.size ≤ j ∧ j < w'.heap.size)

theorem rebW_grw (w : World) (pval : Value) (ac r : Nat) : Grw None' w (rebW w pval ac r) := ((((Grw.refl _ w).alloc _).alloc _).alloc _).alloc _
theorem rebW_size (w : World) (pval : Value) (ac r : Nat) : (rebW w pval ac r).heap.size = w.heap.size + 4 := by
  unfold rebW
  simp only [World.alloc, Array.size_push]
theorem rebW_dv (w : World) (pval : Value) (ac r : Nat) : (rebW w pval ac r).cell? ⟨w.heap.size + 1, 0, none⟩ = some (.map (some r)) := by
  unfold rebW
  go_simp
theorem rebW_rb (w : World) (pval : Value) (ac r : Nat) : (rebW w pval ac r).cell? ⟨w.heap.size, 1, none⟩ = some (.func (.func 10) #[] #[fp ac]) := by
  unfold rebW
  go_simp

theorem rebuild_leaf (w : World) (k : Ky) (pval : Value) (ac r : Nat) (hk : k.t = 53 ∨ (k.t = 45 ∧ pval = .nilFunc)) :
    Calls Yba.prog 18 #[rwv pval ac, k.val, .map (some r)] w (fun e w' => ∃ v, e = .returned v ∧ v = k.val ∧ Grw None' w w') := by
  refine rebuild_of w k pval ac r (by rcases hk with h | h; exact .inl (.inl h); exact .inr h) _ ?_
  refine Calls.mono (mapParts22_leaf k (by rcases hk with h | h; exact .inl h; exact .inr h.1) _ _ _ _) ?_
  rintro e w' ⟨rfl, rfl⟩
  exact ⟨_, rfl, rfl, rebW_grw w pval ac r⟩

/-- The keys asked for, and their images. -/
structure Asked (w : World) (D : List (Ky × Ky)) (m : Nat) (x y : Nat → Ky) : Prop where
  xk : ∀ j, j < m → (x j).ok ∧ Plain w (x j).b
  yk : ∀ j, j < m → (y j).ok ∧ Plain w (y j).b
  lk : ∀ j, j < m → lk D (x j) = some (y j)

def NamedR (F : Nat → Prop) (w : World) (b m : Nat) (x y : Nat → Ky) (v : Value) (w' : World) : Prop :=
  ∃ k' : Ky, v = k'.val ∧ Grw None' w w' ∧ ((∀ j, j < m → y j = x j) → k' = ⟨63, b⟩) ∧ ((∃ j, j < m ∧ y j ≠ x j) → k'.t = 63 ∧ w.heap.size ≤ k'.b ∧ NamedK (More F w w') w' k'.b m y)

theorem rowK_of_rowS {F : Nat → Prop} {w : World} {v : Value} {S0 m : Nat} {f : Nat → Value} (h : RowS w v S0 m f) (hF : ∀ j, S0 ≤ j → j < w.heap.size → F j) : RowK F w v m f := by
  obtain ⟨g, cap, h1, h2, h3, h4, h5⟩ := h
  exact .inr ⟨g, cap, h1, h4, hF g h2 h3, h5⟩

theorem rebuild_named (F : Nat → Prop) (w : World) (b m : Nat) (hm : m ≤ 40) (x y : Nat → Ky) (pval : Value) (ac r : Nat) (D : List (Ky × Ky)) (hF : ∀ j, F j → j < w.heap.size) (hN : NamedK F w b m x) (hA : Asked w D m x y) (hD : MapAt w r (vals D)) :
    Calls Yba.prog 18 #[rwv pval ac, (Ky.mk 63 b).val, .map (some r)] w (fun e w' => ∃ v, e = .returned v ∧ NamedR F w b m x y v w') := by
  refine rebuild_of w ⟨63, b⟩ pval ac r (.inl (.inr (.inl rfl))) _ ?_
  have g0 := rebW_grw w pval ac r
  have s0 := rebW_size w pval ac r
  have d0 := rebW_dv w pval ac r
  unfold rebArgs
  generalize rebW w pval ac r = W at *
  obtain ⟨v, hn, hr⟩ := hN.ex
  have gI : ∀ {w'}, Grw None' W w' → Grw None' w w' := fun h => g0.trans h
  have H : MapT 25 (w.heap.size + 1) m W.heap.size x y v (fun _ w' => Grw None' W w') := by
    refine ⟨fun i w' h => ?_, fun i w' h j hj => ?_, fun i w' hi h => ?_, fun _ i w1 w2 h1 h2 => ?_, fun i w' h => h.size, en25⟩
    · exact (hr.kp (F' := F) ((gI h).kp (fun j hj => ⟨hF j hj, fun e => e⟩)) (fun _ h => h)).rowV
    · exact ⟨(hA.xk j hj).1, (hA.xk j hj).2.grw (gI h) (fun e => e), (hA.yk j hj).1, (hA.yk j hj).2.grw (gI h) (fun e => e)⟩
    · refine Calls.mono (typ_any w' (w.heap.size + 1) r D (x i) (y i) (h.cellOf d0 (fun e => e)) (hD.grw (gI h) (fun e => e) (fun _ _ e => e)) (hA.xk i hi).1 ((hA.xk i hi).2.grw (gI h) (fun e => e)) (hA.lk i hi)) ?_
      rintro e w2 ⟨rfl, rfl⟩
      exact ⟨rfl, h, fun _ => Grw.refl _ _⟩
    · exact h1.step h2 (fun j h3 h4 => by omega)
  refine Calls.mono (mapParts22_named b _ _ _ W _ (Calls.mono (mapArgs28 25 (w.heap.size + 1) m W.heap.size b (by omega) x y v _ H (fun i w' h => hn.same ((gI h).block b hn.pl.lt (fun e => e))) W (Grw.refl _ _)) (fun e w' h => h))) ?_
  rintro e w' ⟨b', rfl, h1, h2, h3⟩
  refine ⟨_, rfl, ⟨63, b'⟩, rfl, gI h1, fun h => by rw [h2 h], fun h => ?_⟩
  obtain ⟨h4, v', h5, h6⟩ := h3 h
  have hl := h5.pl.lt
  have hb' : w.heap.size ≤ b' := by omega
  exact ⟨rfl, hb', ⟨.inr ⟨hb', hl⟩, v', h5, rowK_of_rowS h6 (fun j hj hl => .inr ⟨by omega, hl⟩)⟩⟩
def StructR (F : Nat → Prop) (w : World) (b m : Nat) (x y : Nat → Ky) (ac : Nat) (k0 : Int) (v : Value) (w' : World) : Prop :=
  ∃ k' : Ky, v = k'.val ∧ Grw (fun j => j = ac) w w' ∧ CntAt w' ac (k0 + m) ∧ ((∀ j, j < 2 * m → y j = x j) → k' = ⟨72, b⟩) ∧ ((∃ j, j < 2 * m ∧ y j ≠ x j) → k'.t = 72 ∧ w.heap.size ≤ k'.b ∧ StructK (More F w w') w' k'.b m (fun j => y (2 * j)) (fun j => y (2 * j + 1)))

def InR (W : World) (m ac S0 : Nat) (k0 : Int) (y : Nat → Ky) (ps : Nat → Nat) (i : Nat) (fs : Nat → Nat) (w' : World) : Prop :=
  i ≤ m ∧ Grw (fun j => j = ac) W w' ∧ CntAt w' ac (k0 + i) ∧ ∀ j, j < i → FieldAt w' (fs j) (y (2 * j)) (y (2 * j + 1)) ∧ (fs j = ps j ∨ (S0 ≤ fs j ∧ fs j < w'.heap.size))

theorem rebuild_struct (F : Nat → Prop) (w : World) (b m : Nat) (hm : m ≤ 40) (x y : Nat → Ky) (pval : Value) (ac r : Nat) (k0 : Int) (D : List (Ky × Ky)) (hF : ∀ j, F j → j < w.heap.size) (hFa : ¬ F ac) (hra : r ≠ ac) (hN : StructK F w b m (fun j => x (2 * j)) (fun j => x (2 * j + 1))) (hA : Asked w D (2 * m) x y) (hne : ∀ j, j < 2 * m → (x j).b ≠ ac ∧ (y j).b ≠ ac) (hDa : ∀ p ∈ D, p.1.b ≠ ac) (hD : MapAt w r (vals D)) (hc : CntAt w ac k0) (hk0 : 0 ≤ k0) (hk1 : k0 < 90000) :
    Calls Yba.prog 18 #[rwv pval ac, (Ky.mk 72 b).val, .map (some r)] w (fun e w' => ∃ v, e = .returned v ∧ StructR F w b m x y ac k0 v w') := by
  refine rebuild_of w ⟨72, b⟩ pval ac r (.inl (.inr (.inr rfl))) _ ?_
  have g0 := rebW_grw w pval ac r
  have s0 := rebW_size w pval ac r
  have d0 := rebW_dv w pval ac r
  have r0 := rebW_rb w pval ac r
  have lac := hc.lt
  unfold rebArgs
  generalize rebW w pval ac r = W at *
  obtain ⟨v, ps, hn, hr, hfs⟩ := hN.ex
  obtain ⟨q, hqe⟩ : ∃ q, q = W.heap.size := ⟨_, rfl⟩
  obtain ⟨WQ, hWQ⟩ : ∃ WQ, WQ = W.alloc (.cells #[.func (.func 26) #[] #[fp (w.heap.size + 1), fp w.heap.size]] 118) := ⟨_, rfl⟩
  have gQ : Grw None' W WQ := by rw [hWQ]; exact (Grw.refl _ W).alloc _
  have sQ : WQ.heap.size = W.heap.size + 1 := by rw [hWQ]; simp only [World.alloc, Array.size_push]
  have cQ : WQ.cell? ⟨q, 0, none⟩ = some (.func (.func 26) #[] #[fp (w.heap.size + 1), fp w.heap.size]) := by rw [hWQ, hqe]; go_simp
  have gI : ∀ {i fs w'}, InR WQ m ac WQ.heap.size k0 y ps i fs w' → Grw (fun j => j = ac) w w' := fun h => ((g0.trans gQ).mono (fun _ _ e => e.elim)).trans h.2.1
  have hps : ∀ j, j < m → ps j ≠ ac := fun j hj e => hFa (e ▸ (hfs j hj).1)
  have mD : ∀ {w'}, Grw (fun j => j = ac) w w' → MapAt w' r (vals D) := fun g => hD.grw g hra (fun p hp => by
    simp only [vals, List.mem_map] at hp
    obtain ⟨p', hp', rfl⟩ := hp
    exact hDa p' hp')
  have hbac : b ≠ ac := fun e => hFa (e ▸ hN.fb)
  have H : MapF 34 q m WQ.heap.size ps (fun j => ¬ (y (2 * j) = x (2 * j) ∧ y (2 * j + 1) = x (2 * j + 1))) v (InR WQ m ac WQ.heap.size k0 y ps) := by
    refine ⟨fun i fs w' h => ?_, fun i fs w' h => ⟨fun j hj => ?_, fun j hj => ?_⟩, fun i fs w' hi h => ?_, fun _ i fs w1 w2 h1 h2 => ?_, fun i fs w' h => h.2.1.size, en34⟩
    · exact (hr.kp (F' := F) ((gI h).kp (fun j hj => ⟨hF j hj, fun e => hFa (e ▸ hj)⟩)) (fun _ h => h)).rowV
    · exact (hfs j hj).2.pl.grw (gI h) (hps j hj)
    · exact (h.2.2.2 j hj).1.pl
    · have hgi := gI h
      obtain ⟨h0, h1, h2, h3⟩ := h
      have hfi := (hfs i hi).2.same (hgi.block _ (hfs i hi).2.pl.lt (hps i hi))
      have kx : ∀ j, j < 2 * m → KyIn w' (fun j => j = ac) (x j) := fun j hj => ⟨(hA.xk j hj).1, (hA.xk j hj).2.grw hgi (hne j hj).1, (hne j hj).1⟩
      have ky : ∀ j, j < 2 * m → KyIn w' (fun j => j = ac) (y j) := fun j hj => ⟨(hA.yk j hj).1, (hA.yk j hj).2.grw hgi (hne j hj).2, (hne j hj).2⟩
      have hcall := field34 26 q (ps i) #[fp (w.heap.size + 1), fp w.heap.size] (x (2 * i)) (x (2 * i + 1)) (y (2 * i)) (y (2 * i + 1)) w' (fun j => j = ac)
        (fun _ w1 => CntAt w1 ac (k0 + (i + 1 : Nat))) (fun w1 => CntAt w1 ac (k0 + (i + 1 : Nat))) en26 (h1.cellOf cQ (by show ¬ q = ac; omega)) hfi (hps i hi) (fun j e => by rw [e]; exact h2.lt) (kx _ (by omega)) (kx _ (by omega)) (ky _ (by omega)) (ky _ (by omega)) ?_ ?_
      · refine Calls.mono hcall ?_
        rintro e w2 ⟨f', rfl, g2, q2, hf', hsame, hdiff⟩
        have hfs2 : ∀ j, j < i → FieldAt w2 (fs j) (y (2 * j)) (y (2 * j + 1)) ∧ (fs j = ps j ∨ (WQ.heap.size ≤ fs j ∧ fs j < w2.heap.size)) := fun j hj => by
          obtain ⟨a1, a2⟩ := h3 j hj
          have hnac : fs j ≠ ac := by
            rcases a2 with a2 | a2
            · rw [a2]; exact hps j (by omega)
            · omega
          refine ⟨a1.same (g2.block _ a1.pl.lt hnac), ?_⟩
          rcases a2 with a2 | a2
          · exact .inl a2
          · exact .inr ⟨a2.1, Nat.lt_of_lt_of_le a2.2 g2.size⟩
        refine ⟨upd fs i f', fun j hj => upd_other fs _ (by omega), by rw [upd_same], ⟨by omega, h1.trans g2, q2, fun j hj => ?_⟩, ?_, fun _ => g2.mono (fun j h5 h6 => by omega)⟩
        · by_cases hji : j = i
          · subst hji
            rw [upd_same]
            refine ⟨hf', ?_⟩
            by_cases hd : y (2 * j) = x (2 * j) ∧ y (2 * j + 1) = x (2 * j + 1)
            · exact .inl (hsame hd)
            · have := hdiff hd
              have := h1.size
              exact .inr ⟨by omega, by omega⟩
          · rw [upd_other fs _ hji]
            exact hfs2 j (by omega)
        · rw [upd_same]
          constructor
          · intro e hd
            have := (hdiff hd).1
            have h7 := (hfs i hi).2.pl.lt
            have := hgi.size
            omega
          · intro hd
            exact hsame (Classical.byContradiction hd)
      · intro W' gW
        have gW2 : Grw (fun j => j = ac) w W' := hgi.trans (gW.mono (fun _ _ e => e.elim))
        have gW1 : Grw (fun j => j = ac) W W' := (gQ.mono (fun _ _ e => e.elim)).trans (h1.trans (gW.mono (fun _ _ e => e.elim)))
        refine Calls.mono (annot26_any W' (w.heap.size + 1) r w.heap.size ac (k0 + i) D (x (2 * i)) (x (2 * i + 1)) (y (2 * i)) (y (2 * i + 1)) (gW1.cellOf d0 (by show ¬ _ = ac; omega)) (mD gW2) (kx _ (by omega)).ok ((kx (2 * i) (by omega)).pl.grw gW (fun e => e)) (kx _ (by omega)).ok ((kx (2 * i + 1) (by omega)).pl.grw gW (fun e => e)) (hA.lk _ (by omega)) (hA.lk _ (by omega)) (gW1.cellOf r0 (by show ¬ _ = ac; omega)) (h2.grw gW (fun e => e)) (by omega) (by omega)) ?_
        rintro e w1 ⟨rfl, g1, c1⟩
        exact ⟨rfl, g1, by rw [show k0 + ((i + 1 : Nat) : Int) = k0 + i + 1 from by omega]; exact c1⟩
      · intro W' w1 w2 gW hq1 g2
        exact hq1.grw g2 (fun e => by have := h2.lt; omega)
    · obtain ⟨a0, a1, a2, a3⟩ := h1
      have lac2 := a1.size
      refine ⟨a0, a1.step h2 (fun j h3 h4 => by omega), a2.grw h2 (fun e => by omega), fun j hj => ?_⟩
      obtain ⟨b1, b2⟩ := a3 j hj
      obtain ⟨cs, htag⟩ := b1.tag
      refine ⟨b1.same (h2.block _ b1.pl.lt (fun e => ?_)), ?_⟩
      · obtain ⟨_, cs', e2⟩ := e
        rw [htag] at e2
        injection e2 with e2
        injection e2 with _ e3 _
        exact absurd e3 (by decide)
      · rcases b2 with b2 | b2
        · exact .inl b2
        · exact .inr ⟨b2.1, Nat.lt_of_lt_of_le b2.2 h2.size⟩
  have h0 : InR WQ m ac WQ.heap.size k0 y ps 0 ps (W.alloc (.cells #[.func (.func 26) #[] #[fp (w.heap.size + 1), fp w.heap.size]] 118)) := by
    rw [← hWQ]
    exact ⟨Nat.zero_le _, Grw.refl _ _, by simpa using hc.grw (g0.trans gQ) (fun e => e), fun j hj => absurd hj (by omega)⟩
  rw [hqe] at H
  refine Calls.mono (mapParts22_struct b _ _ _ W (fun b' w' => ∃ fs, InR WQ m ac WQ.heap.size k0 y ps m fs w' ∧ ((∀ j, j < m → ¬ ¬ (y (2 * j) = x (2 * j) ∧ y (2 * j + 1) = x (2 * j + 1))) → b' = b) ∧ ((∃ j, j < m ∧ ¬ (y (2 * j) = x (2 * j) ∧ y (2 * j + 1) = x (2 * j + 1))) → WQ.heap.size ≤ b' ∧ ∃ v', StructAt w' b' v' ∧ RowS w' v' WQ.heap.size m (fun j => fp (fs j)))) (Calls.mono (mapFields29 26 m WQ.heap.size b #[fp (w.heap.size + 1), fp w.heap.size] (by omega) ps _ v _ W H (fun i fs w' h => hn.same ((gI h).block b hn.pl.lt hbac)) (hn.same (g0.block b hn.pl.lt (fun e => e))) ps h0) (fun e w' h => by obtain ⟨b', y, h1, h2⟩ := h; exact ⟨b', h1, y, h2⟩))) ?_
  rintro e w' ⟨b', rfl, fs, h1, h2, h3⟩
  have hgw := gI h1
  refine ⟨_, rfl, ⟨72, b'⟩, rfl, hgw, h1.2.2.1, fun h => ?_, fun h => ?_⟩
  · rw [h2 (fun j hj hd => hd ⟨h _ (by omega), h _ (by omega)⟩)]
  · obtain ⟨j, hj, hd⟩ := h
    obtain ⟨h4, v', h5, h6⟩ := h3 ⟨j / 2, by omega, fun he => hd (by
      rcases Nat.mod_two_eq_zero_or_one j with e | e
      · have : 2 * (j / 2) = j := by omega
        rw [this] at he; exact he.1
      · have : 2 * (j / 2) + 1 = j := by omega
        rw [this] at he; exact he.2)⟩
    have hl := h5.pl.lt
    have hb' : w.heap.size ≤ b' := by omega
    refine ⟨rfl, hb', ⟨.inr ⟨hb', hl⟩, v', fs, h5, rowK_of_rowS h6 (fun j hj hl => .inr ⟨by omega, hl⟩), fun j hj => ?_⟩⟩
    obtain ⟨a1, a2⟩ := h1.2.2.2 j hj
    refine ⟨?_, a1⟩
    rcases a2 with a2 | a2
    · exact .inl (by rw [a2]; exact (hfs j hj).1)
    · exact .inr ⟨by omega, a2.2⟩
end Go.Proofs.Ybulkbebo
