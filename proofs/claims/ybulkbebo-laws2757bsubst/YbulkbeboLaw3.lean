/- A struct type is built: the inner loop. -/
import Derived.Test.YbulkbeboLaw2
namespace Go.Proofs.Ybulkbebo
open Go.RowKit
open Classical
attribute [local go_sem] neq_func75 neq_func76 neq_nil76 as45_45 as53_45 as63_45 as72_45 as45_63 as53_63 as63_63 as72_63 as45_72 as53_72 as63_72 as72_72 as45_95 as53_95 as63_95 as72_95 eql58_none eql58_some eql66_none eql66_some
set_option linter.unusedSimpArgs false
set_option linter.unusedVariables false

/-- The memory in the inner loop of a struct: the fields too. -/
structure K3 (B : Bk) (z : Zs) (n i : Nat) (w1 w2 : World) (tv : Nat → Ky) (has : Nat → Bool) (kv : Nat → Value) (jk ja : Nat) (ko av : Value) (hj : Bool) (ps : Nat → Nat) : Prop where
  k : K2 B z n i 3 w1 w2 tv has kv 67 (fun l => fp (ps l)) jk ja ko av hj
  fl : ∀ l, l < ja → w1.heap.size ≤ ps l ∧ ps l < w2.heap.size ∧ FieldAt w2 (ps l) (tv (kdZ z i (2 * l))) (tv (kdZ z i (2 * l + 1)))

section
variable {B : Bk} {z : Zs} {n i : Nat} {w1 w2 : World} {tv : Nat → Ky} {has : Nat → Bool} {kv : Nat → Value} {jk ja : Nat} {ko av : Value} {hj : Bool} {ps : Nat → Nat}

theorem fld_apart {w : World} {f base k size : Nat} {e : TypeId} {T V : Ky} {v : Value} {xs : List Value} (h : FieldAt w f T V) (o : w.ownsRow base e size v k xs) (he : e ≠ 71) : v.ownBlock ≠ some f := by
  intro hg
  obtain ⟨c1, h1⟩ := own_tag o hg
  obtain ⟨c2, h2⟩ := h.tag
  rw [h1] at h2
  injection h2 with h2
  injection h2 with _ h2 _
  exact he h2

theorem K3.kid2 (bo : BkOK B) (h : K3 B z n i w1 w2 tv has kv jk ja ko av hj ps) {w3 : World} {v : Value} {jk' : Nat} {ko' : Value} (g : Grw (fun y => ko.ownBlock = some y) w2 w3) (h3 : K2 B z n i 3 w1 (w3.setCell ⟨B.cb, i, none⟩ v) tv has kv 67 (fun l => fp (ps l)) jk' ja ko' av hj) :
    K3 B z n i w1 (w3.setCell ⟨B.cb, i, none⟩ v) tv has kv jk' ja ko' av hj ps := by
  refine ⟨h3, fun l hl => ?_⟩
  obtain ⟨f1, f2, f3⟩ := h.fl l hl
  have q4 := bo.cb
  have hb := h.k.b1
  have e1 := g.block (ps l) f2 (fld_apart f3 h.k.ok (by decide))
  have g2 : Grw (fun y => y = B.cb) w3 (w3.setCell ⟨B.cb, i, none⟩ v) := (Grw.refl (fun y => y = B.cb) w3).setCell (a := ⟨B.cb, i, none⟩) (fun _ => rfl) _
  have e2 := g2.block (ps l) (Nat.lt_of_lt_of_le f2 g.size) (by omega)
  exact ⟨f1, Nat.lt_of_lt_of_le (Nat.lt_of_lt_of_le f2 g.size) g2.size, f3.same (e2.trans e1)⟩

theorem K3.hasT (bo : BkOK B) (h : K3 B z n i w1 w2 tv has kv jk ja ko av hj ps) : K3 B z n i w1 (w2.setCell ⟨B.hb, i, none⟩ (.bool true)) tv has kv jk ja ko av true ps := by
  refine ⟨h.k.hasT bo, fun l hl => ?_⟩
  obtain ⟨f1, f2, f3⟩ := h.fl l hl
  have q4 := bo.hb
  have hb := h.k.b1
  have g2 : Grw (fun y => y = B.hb) w2 (w2.setCell ⟨B.hb, i, none⟩ (.bool true)) := (Grw.refl (fun y => y = B.hb) w2).setCell (a := ⟨B.hb, i, none⟩) (fun _ => rfl) _
  exact ⟨f1, Nat.lt_of_lt_of_le f2 g2.size, f3.same (g2.block (ps l) f2 (by omega))⟩

/-- 'fs = append(fs, &Field{..})'. -/
theorem step_fld {ops : Array Oper} {o : Oper} {a : Act} {W wx : World} {K : Act → World → Prop} {Q : Exit → Act → World → Prop} {E : Prop} (hgd : o.guard = none) (s x : Operand)
    (ho : o.op = .call { callee := .builtin .append, args := #[s, x], argTypes := #[66, 66] }) (bo : BkOK B)
    (h : K3 B z n i w1 w2 tv has kv jk ja ko av hj ps) (hja : ja ≤ 1000) (g1 : Grw None' w2 wx) (T V : Ky) (hT : tv (kdZ z i (2 * ja)) = T) (hV : tv (kdZ z i (2 * ja + 1)) = V) (H : Nat) (hH : wx.heap.size = H)
    (hW : W = (wx.alloc (fieldObj T V)).alloc (.cells #[fp H] 67))
    (hs : a.eval s = av) (hx : a.eval x = .slice (some ⟨H + 1, 0, none⟩) 1 1)
    (hK : ∀ g cap w', Hid (∃ ps', K3 B z n i w1 w' tv has kv jk (ja + 1) ko (.slice (some ⟨g, 0, none⟩) (ja + 1) cap) hj ps') → K (a.put o.dst (.slice (some ⟨g, 0, none⟩) (ja + 1) cap)) w') :
    if Region.wanted o (yielded ops a.tmps) = true then Oper.wp Yba.prog o a W K Q else E := by
  obtain ⟨i0, hi0, hz0, hz1, hz2⟩ := info_parts Yba.i67
  subst hW
  have sx : (wx.alloc (fieldObj T V)).heap.size = H + 1 := by simp only [World.alloc, Array.size_push, hH]
  have hB := heap_alloc_new (wx.alloc (fieldObj T V)) (.cells #[fp H] 67)
  rw [sx] at hB
  have g2 : Grw None' wx ((wx.alloc (fieldObj T V)).alloc (.cells #[fp H] 67)) := ((Grw.refl _ wx).alloc _).alloc _
  have g12 : Grw None' w2 ((wx.alloc (fieldObj T V)).alloc (.cells #[fp H] 67)) := g1.trans g2
  have h2 := h.k.grown bo g12
  have hf0 : FieldAt ((wx.alloc (fieldObj T V)).alloc (.cells #[fp H] 67)) H T V := by
    have h1 := fieldAt_new wx T V H hH.symm
    have h3 : Grw None' (wx.alloc (fieldObj T V)) ((wx.alloc (fieldObj T V)).alloc (.cells #[fp H] 67)) := (Grw.refl _ _).alloc _
    exact h1.same (h3.block H (by rw [sx]; omega) (fun e => e))
  have hb1 := h.k.b1
  have hgs := h.k.g.size
  have s1 := g1.size
  have s2 := g2.size
  refine step_append_lies _ hgd s x 66 ho w1.heap.size 67 i0 _ 1 8 Yba.underlying66 hi0 hz0 hz1 hz2 rfl (by decide) av ja _ hs h2.oa ⟨H + 1, 0, none⟩ 1 1 [fp H] hx rfl ?_ ?_ (by decide) (by unfold maxLen; omega) (by omega) (by omega) _ rfl ?_
  · intro j y hj
    exact news_of_cells hB j y (by simpa using hj)
  · intro y hy
    simp at hy
    subst hy
    rfl
  · intro g cap w' h3 h4 h5 h6
    have hlt := h2.oa.lt
    have hlt0 := h.k.oa.lt
    have g4 : Grw (fun y => av.ownBlock = some y) ((wx.alloc (fieldObj T V)).alloc (.cells #[fp H] 67)) w' := (Grw.refl _ _).grown h4 (fun y hy _ => hy)
    have ok' : w'.ownsRow w1.heap.size 3 1 ko jk (upto (fun l => .int .i64 (kdZ z i l : Int)) jk) := own_same h2.ok (fun k hk => g4.block k (h2.ok.lt k hk).2 (fun e => own_apart h2.ok h2.oa (by decide) hk e rfl))
    have hne : ∀ l, l < ja → ps l ≠ H := fun l hl => by have := (h.fl l hl).2.1; omega
    obtain ⟨ps', hps⟩ : ∃ ps' : Nat → Nat, ps' = fun l => if l = ja then H else ps l := ⟨_, rfl⟩
    have p1 : ps' ja = H := by rw [hps]; simp
    have p2 : ∀ l, l < ja → ps' l = ps l := fun l hl => by rw [hps]; simp; omega
    have hu : upto (fun l => fp (ps' l)) ja = upto (fun l => fp (ps l)) ja := upto_congr (fun l hl => by simp only [p2 l hl])
    have sW : ((wx.alloc (fieldObj T V)).alloc (.cells #[fp H] 67)).heap.size = H + 2 := by simp only [World.alloc, Array.size_push, hH]
    have s4 := g4.size
    refine hK g cap w' ⟨ps', ?_, fun l hl => ?_⟩
    · have hq : K2 B z n i 3 w1 ((wx.alloc (fieldObj T V)).alloc (.cells #[fp H] 67)) tv has kv 67 (fun l => fp (ps' l)) jk ja ko av hj := by
        refine ⟨h2.g, h2.rt, h2.rk, h2.rp, h2.rh, h2.rc, h2.ok, ?_, h2.b1⟩
        rw [hu]; exact h2.oa
      refine hq.keep bo g4 (fun y hy => ⟨by have := (hlt y hy).1; omega, (hlt y hy).1⟩) ok' ?_
      rw [upto_succ, p1, hu]
      exact h3
    · by_cases e : l = ja
      · subst e
        rw [p1, hT, hV]
        refine ⟨by omega, by omega, hf0.same (g4.block H (by omega) (fun e => ?_))⟩
        have := (hlt0 H e).2
        omega
      · have hl2 : l < ja := by omega
        rw [p2 l hl2]
        obtain ⟨f1, f2, f3⟩ := h.fl l hl2
        have f4 := f3.same (g12.block (ps l) f2 (fun e => e))
        exact ⟨f1, by omega, f4.same (g4.block (ps l) (by omega) (fld_apart f4 h2.oa (by decide)))⟩

/-- A struct type is laid. -/
theorem bin_kind3 {use : Bool} {w0 w : World} (bo : BkOK B) (b : BIn B z use n i w0 w tv has kv) (hi : i < n) (hn : n ≤ 256) (hk : kindZ z i = 3) (hw1 : Grw (M5 B) w w1) (h3 : K3 B z n i w1 w2 tv has kv (2 * mZ z i) (mZ z i) ko av hj ps) (hh : hj = true ↔ ∃ l, l < 2 * mZ z i ∧ has (kdZ z i l) = true) :
    BIn B z use n (i + 1) w0 ((w2.setCell ⟨B.tb, i, none⟩ (.iface 72 (.pointer (some ⟨w2.heap.size, 0, none⟩)))).alloc (structObj av)) (updK tv i ⟨72, w2.heap.size⟩) (updB has i hj) (updV kv i ko) := by
  have h := h3.k
  have q1 := bo.tb; have q2 := bo.kb; have q3 := bo.pb; have q4 := bo.cb; have q5 := bo.hb
  have hb1 := h.b1
  have s1 := hw1.size
  have s2 := h.g.size
  have sz : ((w2.setCell ⟨B.tb, i, none⟩ (.iface 72 (.pointer (some ⟨w2.heap.size, 0, none⟩)))).alloc (structObj av)).heap.size = w2.heap.size + 1 := by simp only [World.alloc, Array.size_push, Go.Deep.nblk_setCell]
  have szs : (w2.setCell ⟨B.tb, i, none⟩ (.iface 72 (.pointer (some ⟨w2.heap.size, 0, none⟩)))).heap.size = w2.heap.size := Go.Deep.nblk_setCell _ _ _
  have g3 : Grw (M5 B) w2 ((w2.setCell ⟨B.tb, i, none⟩ (.iface 72 (.pointer (some ⟨w2.heap.size, 0, none⟩)))).alloc (structObj av)) := ((Grw.refl (M5 B) w2).setCell (a := ⟨B.tb, i, none⟩) (fun _ => .inl rfl) _).alloc _
  have g : Grw (M5 B) w _ := (hw1.trans h.g).trans g3
  have hn1 := structAt_new (w2.setCell ⟨B.tb, i, none⟩ (.iface 72 (.pointer (some ⟨w2.heap.size, 0, none⟩)))) av
  rw [szs] at hn1
  have oth : ∀ {bl t f}, w2.rowIs bl t n f → bl ≠ B.tb → ((w2.setCell ⟨B.tb, i, none⟩ (.iface 72 (.pointer (some ⟨w2.heap.size, 0, none⟩)))).alloc (structObj av)).rowIs bl t n f := fun r h1 => (r.setOther (a := ⟨B.tb, i, none⟩) h1 _).alloc _
  have nM : ∀ x, w1.heap.size ≤ x → ¬ M5 B x := fun x hx e => by rcases e with e | e | e | e | e <;> omega
  have ok' := own_grw h.ok g3 nM
  have oa' := own_grw h.oa g3 nM
  have hFb : FB B ((w2.setCell ⟨B.tb, i, none⟩ (.iface 72 (.pointer (some ⟨w2.heap.size, 0, none⟩)))).alloc (structObj av)).heap.size w2.heap.size := FB_new bo (by omega) (by rw [sz]; omega)
  have np : ∀ (u : Bool) (k : Nat) (t : Nat → Ky) (hs : Nat → Bool) (y : Nat), (envB B z u k t hs y).np i = 2 * mZ z i := fun u k t hs y => Env.np3 (E := envB B z u k t hs y) hk
  refine b.step bo hi hn g ⟨72, w2.heap.size⟩ hj ko ?_ ?_ ?_ ?_ ?_ ⟨fun q => by omega, fun q => by omega, fun q => by omega, fun _ => rfl, fun _ => by show w.heap.size ≤ w2.heap.size; omega, by rw [sz]; show w2.heap.size < _; omega, hh.trans ⟨fun ⟨l, hl, e⟩ => .inr ⟨l, by rw [np]; exact hl, e⟩, fun q => ?_⟩⟩ hFb hn1.pl (fun q => by omega) (fun _ => ⟨hFb, av, ps, hn1, rowK_of_own bo oa' hb1, fun l hl => ?_⟩) (by rw [np]; exact rowK_of_own bo ok' hb1)
  · exact (h.rt.set i _).alloc _
  · rw [hk]; exact oth h.rk (by omega)
  · exact (oth h.rp (by omega)).congr (fun j _ => (if_neg (fun q : j = i ∧ kindZ z i = 1 => by have := q.2; omega)).symm)
  · exact oth h.rh (by omega)
  · exact oth h.rc (by omega)
  · rcases q with q | ⟨l, hl, e⟩
    · omega
    · exact ⟨l, by rw [np] at hl; exact hl, e⟩
  · obtain ⟨f1, f2, f3⟩ := h3.fl l hl
    exact ⟨FB_new bo (by omega) (by rw [sz]; omega), f3.same (g3.block _ f2 (nM _ f1))⟩

def K3R (B : Bk) (z : Zs) (n i : Nat) (w1 : World) (tv : Nat → Ky) (has : Nat → Bool) (kv : Nat → Value) (m : Nat) (g : Nat) (vj va : Value) (wr : World) : Prop :=
  ∃ j ko hj ps, j ≤ m ∧ g = m - j ∧ vj = .int .i64 (j : Int) ∧ K3 B z n i w1 wr tv has kv (2 * j) j ko va hj ps ∧ (hj = true ↔ ∃ l, l < 2 * j ∧ has (kdZ z i l) = true)
end
end Go.Proofs.Ybulkbebo
