/- A named type is built: the inner loop. -/
import Derived.Test.YbulkbeboLaw1
namespace Go.Proofs.Ybulkbebo
open Go.RowKit
open Classical
attribute [local go_sem] neq_func75 neq_func76 neq_nil76 as45_45 as53_45 as63_45 as72_45 as45_63 as53_63 as63_63 as72_63 as45_72 as53_72 as63_72 as72_72 as45_95 as53_95 as63_95 as72_95 eql58_none eql58_some eql66_none eql66_some
set_option linter.unusedSimpArgs false
set_option linter.unusedVariables false

/-- The memory in the inner loop of node i: jk kids and ja parts (of element type et, values f) so far. -/
structure K2 (B : Bk) (z : Zs) (n i kk : Nat) (w1 w2 : World) (tv : Nat → Ky) (has : Nat → Bool) (kv : Nat → Value) (et : TypeId) (f : Nat → Value) (jk ja : Nat) (ko av : Value) (hj : Bool) : Prop where
  g : Grw (M5 B) w1 w2
  rt : w2.rowIs B.tb 49 n (fun x => if x < i then (tv x).val else .nilIface)
  rk : w2.rowIs B.kb 3 n (fun x => if x = i then .int .i64 (kk : Int) else (if x < i then .int .i64 (kindZ z x : Int) else .int .i64 0))
  rp : w2.rowIs B.pb 3 n (fun x => if x < i ∧ kindZ z x = 1 then .int .i64 (pZ z x : Int) else .int .i64 0)
  rh : w2.rowIs B.hb 4 n (fun x => if x = i then .bool hj else (if x < i then .bool (has x) else .bool false))
  rc : w2.rowIs B.cb 23 n (fun x => if x = i then ko else (if x < i then kv x else .slice none 0 0))
  ok : w2.ownsRow w1.heap.size 3 1 ko jk (upto (fun l => .int .i64 (kdZ z i l : Int)) jk)
  oa : w2.ownsRow w1.heap.size et 1 av ja (upto f ja)
  b1 : B.S + 15 ≤ w1.heap.size

theorem own_tag {w : World} {base n size g : Nat} {e : TypeId} {v : Value} {xs : List Value} (h : w.ownsRow base e size v n xs) (hg : v.ownBlock = some g) : ∃ cs, w.heap[g]? = some (.cells cs e (0, 0)) := by
  rcases h.2 with ⟨h1, _⟩ | ⟨g', cap, cur, hv, _, h2, _⟩
  · rw [h1] at hg; cases hg
  · rw [hv] at hg
    have e2 : g' = g := by simpa [Value.ownBlock] using hg
    subst e2
    exact ⟨cur, h2⟩

theorem own_apart {w : World} {base n size base' n' size' g g' : Nat} {e e' : TypeId} {v v' : Value} {xs xs' : List Value} (h : w.ownsRow base e size v n xs) (h' : w.ownsRow base' e' size' v' n' xs') (he : e ≠ e') (hg : v.ownBlock = some g) (hg' : v'.ownBlock = some g') : g ≠ g' := by
  rintro rfl
  obtain ⟨c1, h1⟩ := own_tag h hg
  obtain ⟨c2, h2⟩ := own_tag h' hg'
  rw [h1] at h2
  injection h2 with h2
  injection h2 with _ h2 _
  exact he h2

section
variable {B : Bk} {z : Zs} {n i kk : Nat} {w1 w2 : World} {tv : Nat → Ky} {has : Nat → Bool} {kv : Nat → Value} {et : TypeId} {f : Nat → Value} {jk ja : Nat} {ko av : Value} {hj : Bool}

/-- A step that touches no row. -/
theorem K2.keep (bo : BkOK B) (h : K2 B z n i kk w1 w2 tv has kv et f jk ja ko av hj) {w3 : World} {M : Nat → Prop} (g : Grw M w2 w3) (hM : ∀ x, M x → B.S + 15 ≤ x ∧ w1.heap.size ≤ x) (ok : w3.ownsRow w1.heap.size 3 1 ko jk (upto (fun l => .int .i64 (kdZ z i l : Int)) jk)) {av' : Value} {ja' : Nat} (oa : w3.ownsRow w1.heap.size et 1 av' ja' (upto f ja')) : K2 B z n i kk w1 w3 tv has kv et f jk ja' ko av' hj := by
  have q1 := bo.tb; have q2 := bo.kb; have q3 := bo.pb; have q4 := bo.cb; have q5 := bo.hb
  have same : ∀ x, x < B.S + 15 → w3.heap[x]? = w2.heap[x]? := fun x hx => g.block x (by have := h.b1; have := h.g.size; omega) (fun e => by have := (hM x e).1; omega)
  exact ⟨h.g.step g (fun x h1 h2 => by have := (hM x h2).2; omega), h.rt.of_block (same _ (by omega)), h.rk.of_block (same _ (by omega)), h.rp.of_block (same _ (by omega)), h.rh.of_block (same _ (by omega)), h.rc.of_block (same _ (by omega)), ok, oa, h.b1⟩

theorem K2.grown (bo : BkOK B) (h : K2 B z n i kk w1 w2 tv has kv et f jk ja ko av hj) {w3 : World} (g : Grw None' w2 w3) : K2 B z n i kk w1 w3 tv has kv et f jk ja ko av hj :=
  h.keep bo g (fun _ e => e.elim) (own_grw h.ok g (fun _ _ e => e)) (own_grw h.oa g (fun _ _ e => e))

/-- 'kids[i] = append(kids[i], c)'. -/
theorem wpList_kid {ops : Array Oper} {rest : List Oper} {o : Oper} {a : Act} {Q : Exit → Act → World → Prop} {W : World} (hgd : o.guard = none) (s x : Operand)
    (ho : o.op = .call { callee := .builtin .append, args := #[s, x], argTypes := #[23, 23] }) (bo : BkOK B) (hi : i < n) (hne : et ≠ 3)
    (h : K2 B z n i kk w1 w2 tv has kv et f jk ja ko av hj) (hjk : jk ≤ 1000) (c : Nat) (hc : kdZ z i jk = c) (hW : W = w2.alloc (.cells #[.int .i64 (c : Int)] 3))
    (hs : a.eval s = ko) (hx : a.eval x = .slice (some ⟨w2.heap.size, 0, none⟩) 1 1) (i3 : (Yba.prog.info? 3).map (fun i => (i.zero, i.size, i.bytes)) = some (some (.int .i64 0), 1, 8))
    (hK : ∀ g cap w', w'.cell? ⟨B.cb, i, none⟩ = some ko → w'.frozen? ⟨B.cb, i, none⟩ = false → Hid (K2 B z n i kk w1 (w'.setCell ⟨B.cb, i, none⟩ (.slice (some ⟨g, 0, none⟩) (jk + 1) cap)) tv has kv et f (jk + 1) ja (.slice (some ⟨g, 0, none⟩) (jk + 1) cap) av hj) → Hid (Grw (fun y => w1.heap.size ≤ y ∧ y < w2.heap.size) w2 w') →
      wpList Yba.prog ops Q rest (a.put o.dst (.slice (some ⟨g, 0, none⟩) (jk + 1) cap)) w') :
    wpList Yba.prog ops Q (o :: rest) a W := by
  obtain ⟨i0, hi0, hz0, hz1, hz2⟩ := info_parts i3
  subst hW
  have hB := heap_alloc_new w2 (.cells #[.int .i64 (c : Int)] 3)
  have g1 : Grw None' w2 (w2.alloc (.cells #[.int .i64 (c : Int)] 3)) := (Grw.refl _ w2).alloc _
  have h2 := h.grown bo g1
  have q1 := bo.tb; have q2 := bo.kb; have q3 := bo.pb; have q4 := bo.cb; have q5 := bo.hb
  have hb1 := h.b1
  have hgs := h.g.size
  refine wpList_append_lies _ hgd s x 23 ho w1.heap.size 3 i0 _ 1 8 Yba.underlying23 hi0 hz0 hz1 hz2 rfl (by decide) ko jk _ hs h2.ok ⟨w2.heap.size, 0, none⟩ 1 1 [.int .i64 (c : Int)] hx rfl ?_ ?_ (by decide) (by unfold maxLen; omega) (by omega) (by have := g1.size; omega) _ rfl ?_
  · intro j u hj
    exact news_of_cells hB j u (by simpa using hj)
  · intro u hu
    simp at hu
    subst hu
    rfl
  · intro g cap w' h3 h4 h5 h6
    have hlt := h2.ok.lt
    have g4 : Grw (fun y => ko.ownBlock = some y) (w2.alloc (.cells #[.int .i64 (c : Int)] 3)) w' := (Grw.refl _ _).grown h4 (fun y hy _ => hy)
    have hcb : w'.heap[B.cb]? = (w2.alloc (.cells #[.int .i64 (c : Int)] 3)).heap[B.cb]? := g4.block _ (by have := g1.size; omega) (fun e => by have := (hlt _ e).1; omega)
    have rc' := h2.rc.of_block hcb
    have c1 : w'.cell? ⟨B.cb, i, none⟩ = some ko := by have := rc'.cell hi; simpa using this
    refine hK g cap w' c1 (rc'.frozen i) ?_ ?_
    · have oa' : w'.ownsRow w1.heap.size et 1 av ja (upto f ja) := own_same h2.oa (fun k hk => g4.block k (h2.oa.lt k hk).2 (fun e => own_apart h2.ok h2.oa (fun e => hne e.symm) e hk rfl))
      have same : ∀ x, x < B.S + 15 → w'.heap[x]? = (w2.alloc (.cells #[.int .i64 (c : Int)] 3)).heap[x]? := fun x hx => g4.block x (by have := g1.size; omega) (fun e => by have := (hlt _ e).1; omega)
      refine ⟨((h2.g.step g4 (fun x h1 h2 => by have := (hlt x h2).1; omega)).setCell (a := ⟨B.cb, i, none⟩) (fun _ => .inr (.inr (.inr (.inl rfl)))) _), (h2.rt.of_block (same _ (by omega))).setOther (a := ⟨B.cb, i, none⟩) (by show B.tb ≠ B.cb; omega) _, (h2.rk.of_block (same _ (by omega))).setOther (a := ⟨B.cb, i, none⟩) (by show B.kb ≠ B.cb; omega) _, (h2.rp.of_block (same _ (by omega))).setOther (a := ⟨B.cb, i, none⟩) (by show B.pb ≠ B.cb; omega) _, (h2.rh.of_block (same _ (by omega))).setOther (a := ⟨B.cb, i, none⟩) (by show B.hb ≠ B.cb; omega) _, (rc'.set i _).congr (fun j _ => ?_), ?_, ?_, h.b1⟩
      · by_cases e : j = i
        · rw [if_pos e, if_pos e]
        · rw [if_neg e, if_neg e, if_neg e]
      · rw [upto_succ, hc]
        exact ownsRow_setCell_below h3 (a := ⟨B.cb, i, none⟩) (by show B.cb < w1.heap.size; omega) _
      · exact ownsRow_setCell_below oa' (a := ⟨B.cb, i, none⟩) (by show B.cb < w1.heap.size; omega) _
    · exact (g1.mono (fun _ _ e => e.elim)).step g4 (fun x h1 h2 => ⟨(hlt x h2).1, h1⟩)

/-- 'kids[i] = append(kids[i], c1, c2)'. -/
theorem wpList_kid2 {ops : Array Oper} {rest : List Oper} {o : Oper} {a : Act} {Q : Exit → Act → World → Prop} {W : World} (hgd : o.guard = none) (s x : Operand)
    (ho : o.op = .call { callee := .builtin .append, args := #[s, x], argTypes := #[23, 23] }) (bo : BkOK B) (hi : i < n) (hne : et ≠ 3)
    (h : K2 B z n i kk w1 w2 tv has kv et f jk ja ko av hj) (hjk : jk ≤ 1000) (c d : Nat) (hc : kdZ z i jk = c) (hd : kdZ z i (jk + 1) = d) (hW : W = w2.alloc (.cells #[.int .i64 (c : Int), .int .i64 (d : Int)] 3))
    (hs : a.eval s = ko) (hx : a.eval x = .slice (some ⟨w2.heap.size, 0, none⟩) 2 2) (i3 : (Yba.prog.info? 3).map (fun i => (i.zero, i.size, i.bytes)) = some (some (.int .i64 0), 1, 8))
    (hK : ∀ g cap w', w'.cell? ⟨B.cb, i, none⟩ = some ko → w'.frozen? ⟨B.cb, i, none⟩ = false → Hid (K2 B z n i kk w1 (w'.setCell ⟨B.cb, i, none⟩ (.slice (some ⟨g, 0, none⟩) (jk + 2) cap)) tv has kv et f (jk + 2) ja (.slice (some ⟨g, 0, none⟩) (jk + 2) cap) av hj) → Hid (Grw (fun y => ko.ownBlock = some y) w2 w') →
      wpList Yba.prog ops Q rest (a.put o.dst (.slice (some ⟨g, 0, none⟩) (jk + 2) cap)) w') :
    wpList Yba.prog ops Q (o :: rest) a W := by
  obtain ⟨i0, hi0, hz0, hz1, hz2⟩ := info_parts i3
  subst hW
  have hB := heap_alloc_new w2 (.cells #[.int .i64 (c : Int), .int .i64 (d : Int)] 3)
  have g1 : Grw None' w2 (w2.alloc (.cells #[.int .i64 (c : Int), .int .i64 (d : Int)] 3)) := (Grw.refl _ w2).alloc _
  have h2 := h.grown bo g1
  have q1 := bo.tb; have q2 := bo.kb; have q3 := bo.pb; have q4 := bo.cb; have q5 := bo.hb
  have hb1 := h.b1
  have hgs := h.g.size
  refine wpList_append_lies _ hgd s x 23 ho w1.heap.size 3 i0 _ 1 8 Yba.underlying23 hi0 hz0 hz1 hz2 rfl (by decide) ko jk _ hs h2.ok ⟨w2.heap.size, 0, none⟩ 2 2 [.int .i64 (c : Int), .int .i64 (d : Int)] hx rfl ?_ ?_ (by decide) (by unfold maxLen; omega) (by omega) (by have := g1.size; omega) _ rfl ?_
  · intro j u hj
    exact news_of_cells hB j u (by simpa using hj)
  · intro u hu
    simp at hu
    rcases hu with rfl | rfl <;> rfl
  · intro g cap w' h3 h4 h5 h6
    have hlt := h2.ok.lt
    have g4 : Grw (fun y => ko.ownBlock = some y) (w2.alloc (.cells #[.int .i64 (c : Int), .int .i64 (d : Int)] 3)) w' := (Grw.refl _ _).grown h4 (fun y hy _ => hy)
    have hcb : w'.heap[B.cb]? = (w2.alloc (.cells #[.int .i64 (c : Int), .int .i64 (d : Int)] 3)).heap[B.cb]? := g4.block _ (by have := g1.size; omega) (fun e => by have := (hlt _ e).1; omega)
    have rc' := h2.rc.of_block hcb
    have c1 : w'.cell? ⟨B.cb, i, none⟩ = some ko := by have := rc'.cell hi; simpa using this
    refine hK g cap w' c1 (rc'.frozen i) ?_ ?_
    · have oa' : w'.ownsRow w1.heap.size et 1 av ja (upto f ja) := own_same h2.oa (fun k hk => g4.block k (h2.oa.lt k hk).2 (fun e => own_apart h2.ok h2.oa (fun e => hne e.symm) e hk rfl))
      have same : ∀ x, x < B.S + 15 → w'.heap[x]? = (w2.alloc (.cells #[.int .i64 (c : Int), .int .i64 (d : Int)] 3)).heap[x]? := fun x hx => g4.block x (by have := g1.size; omega) (fun e => by have := (hlt _ e).1; omega)
      refine ⟨((h2.g.step g4 (fun x h1 h2 => by have := (hlt x h2).1; omega)).setCell (a := ⟨B.cb, i, none⟩) (fun _ => .inr (.inr (.inr (.inl rfl)))) _), (h2.rt.of_block (same _ (by omega))).setOther (a := ⟨B.cb, i, none⟩) (by show B.tb ≠ B.cb; omega) _, (h2.rk.of_block (same _ (by omega))).setOther (a := ⟨B.cb, i, none⟩) (by show B.kb ≠ B.cb; omega) _, (h2.rp.of_block (same _ (by omega))).setOther (a := ⟨B.cb, i, none⟩) (by show B.pb ≠ B.cb; omega) _, (h2.rh.of_block (same _ (by omega))).setOther (a := ⟨B.cb, i, none⟩) (by show B.hb ≠ B.cb; omega) _, (rc'.set i _).congr (fun j _ => ?_), ?_, ?_, h.b1⟩
      · by_cases e : j = i
        · rw [if_pos e, if_pos e]
        · rw [if_neg e, if_neg e, if_neg e]
      · rw [upto_succ, upto_succ, hc, hd, List.append_assoc]
        exact ownsRow_setCell_below h3 (a := ⟨B.cb, i, none⟩) (by show B.cb < w1.heap.size; omega) _
      · exact ownsRow_setCell_below oa' (a := ⟨B.cb, i, none⟩) (by show B.cb < w1.heap.size; omega) _
    · exact (g1.mono (fun _ _ e => e.elim)).step g4 (fun x h1 h2 => h2)

/-- 'args = append(args, ts[c])'. -/
theorem wpList_arg {ops : Array Oper} {rest : List Oper} {o : Oper} {a : Act} {Q : Exit → Act → World → Prop} {W : World} (hgd : o.guard = none) (s x : Operand)
    (ho : o.op = .call { callee := .builtin .append, args := #[s, x], argTypes := #[58, 58] }) (bo : BkOK B)
    (h : K2 B z n i kk w1 w2 tv has kv 49 f jk ja ko av hj) (hja : ja ≤ 1000) (u : Value) (hu : f ja = u) (hu1 : u.oneCell' = true) (hW : W = w2.alloc (.cells #[u] 49))
    (H : Nat) (hH : w2.heap.size = H) (hs : a.eval s = av) (hx : a.eval x = .slice (some ⟨H, 0, none⟩) 1 1)
    (hK : ∀ g cap w', Hid (K2 B z n i kk w1 w' tv has kv 49 f jk (ja + 1) ko (.slice (some ⟨g, 0, none⟩) (ja + 1) cap) hj) → Hid (Grw (fun y => w1.heap.size ≤ y ∧ y < w2.heap.size) w2 w') →
      wpList Yba.prog ops Q rest (a.put o.dst (.slice (some ⟨g, 0, none⟩) (ja + 1) cap)) w') :
    wpList Yba.prog ops Q (o :: rest) a W := by
  obtain ⟨i0, hi0, hz0, hz1, hz2⟩ := info_parts Yba.i49
  subst hW
  rw [← hH] at hx
  have hB := heap_alloc_new w2 (.cells #[u] 49)
  have g1 : Grw None' w2 (w2.alloc (.cells #[u] 49)) := (Grw.refl _ w2).alloc _
  have h2 := h.grown bo g1
  have hb1 := h.b1
  have hgs := h.g.size
  refine wpList_append_lies _ hgd s x 58 ho w1.heap.size 49 i0 _ 1 16 Yba.underlying58 hi0 hz0 hz1 hz2 rfl (by decide) av ja _ hs h2.oa ⟨w2.heap.size, 0, none⟩ 1 1 [u] hx rfl ?_ ?_ (by decide) (by unfold maxLen; omega) (by omega) (by have := g1.size; omega) _ rfl ?_
  · intro j y hj
    exact news_of_cells hB j y (by simpa using hj)
  · intro y hy
    simp at hy
    subst hy
    exact hu1
  · intro g cap w' h3 h4 h5 h6
    have hlt := h2.oa.lt
    have g4 : Grw (fun y => av.ownBlock = some y) (w2.alloc (.cells #[u] 49)) w' := (Grw.refl _ _).grown h4 (fun y hy _ => hy)
    have ok' : w'.ownsRow w1.heap.size 3 1 ko jk (upto (fun l => .int .i64 (kdZ z i l : Int)) jk) := own_same h2.ok (fun k hk => g4.block k (h2.ok.lt k hk).2 (fun e => own_apart h2.ok h2.oa (by decide) hk e rfl))
    refine hK g cap w' (h2.keep bo g4 (fun y hy => ⟨by have := (hlt y hy).1; omega, (hlt y hy).1⟩) ok' ?_) ?_
    · rw [upto_succ, hu]
      exact h3
    · exact (g1.mono (fun _ _ e => e.elim)).step g4 (fun x h1 h2 => ⟨(hlt x h2).1, h1⟩)

/-- 'has[i] = true'. -/
theorem K2.hasT (bo : BkOK B) (h : K2 B z n i kk w1 w2 tv has kv et f jk ja ko av hj) : K2 B z n i kk w1 (w2.setCell ⟨B.hb, i, none⟩ (.bool true)) tv has kv et f jk ja ko av true := by
  have q1 := bo.tb; have q2 := bo.kb; have q3 := bo.pb; have q4 := bo.cb; have q5 := bo.hb
  have hb1 := h.b1
  refine ⟨h.g.setCell (a := ⟨B.hb, i, none⟩) (fun _ => .inr (.inr (.inr (.inr rfl)))) _, h.rt.setOther (a := ⟨B.hb, i, none⟩) (by show B.tb ≠ B.hb; omega) _, h.rk.setOther (a := ⟨B.hb, i, none⟩) (by show B.kb ≠ B.hb; omega) _, h.rp.setOther (a := ⟨B.hb, i, none⟩) (by show B.pb ≠ B.hb; omega) _, (h.rh.set i _).congr (fun j _ => ?_), h.rc.setOther (a := ⟨B.hb, i, none⟩) (by show B.cb ≠ B.hb; omega) _, ownsRow_setCell_below h.ok (a := ⟨B.hb, i, none⟩) (by show B.hb < w1.heap.size; omega) _, ownsRow_setCell_below h.oa (a := ⟨B.hb, i, none⟩) (by show B.hb < w1.heap.size; omega) _, h.b1⟩
  by_cases e : j = i
  · rw [if_pos e, if_pos e]
  · rw [if_neg e, if_neg e, if_neg e]

theorem rowK_of_own {w : World} {base m : Nat} {e : TypeId} {v : Value} {g : Nat → Value} (bo : BkOK B) (h : w.ownsRow base e 1 v m (upto g m)) (hb : B.S + 15 ≤ base) : RowK (FB B w.heap.size) w v m g := by
  rcases rowP_of_own h base (Nat.le_refl _) with h1 | ⟨b, cap, h1, h2, h3, h4, h5⟩
  · exact .inl h1
  · exact .inr ⟨b, cap, h1, h4, FB_new bo (by omega) h3, h5⟩

/-- A named type is laid. -/
theorem bin_kind2 {use : Bool} {w0 w : World} (bo : BkOK B) (b : BIn B z use n i w0 w tv has kv) (hi : i < n) (hn : n ≤ 256) (hk : kindZ z i = 2) (hw1 : Grw (M5 B) w w1) (h : K2 B z n i 2 w1 w2 tv has kv 49 (fun l => (tv (kdZ z i l)).val) (mZ z i) (mZ z i) ko av hj) (hh : hj = true ↔ ∃ l, l < mZ z i ∧ has (kdZ z i l) = true) :
    BIn B z use n (i + 1) w0 ((w2.setCell ⟨B.tb, i, none⟩ (.iface 63 (.pointer (some ⟨w2.heap.size, 0, none⟩)))).alloc (namedObj av)) (updK tv i ⟨63, w2.heap.size⟩) (updB has i hj) (updV kv i ko) := by
  have q1 := bo.tb; have q2 := bo.kb; have q3 := bo.pb; have q4 := bo.cb; have q5 := bo.hb
  have hb1 := h.b1
  have s1 := hw1.size
  have s2 := h.g.size
  have sz : ((w2.setCell ⟨B.tb, i, none⟩ (.iface 63 (.pointer (some ⟨w2.heap.size, 0, none⟩)))).alloc (namedObj av)).heap.size = w2.heap.size + 1 := by simp only [World.alloc, Array.size_push, Go.Deep.nblk_setCell]
  have szs : (w2.setCell ⟨B.tb, i, none⟩ (.iface 63 (.pointer (some ⟨w2.heap.size, 0, none⟩)))).heap.size = w2.heap.size := Go.Deep.nblk_setCell _ _ _
  have g3 : Grw (M5 B) w2 ((w2.setCell ⟨B.tb, i, none⟩ (.iface 63 (.pointer (some ⟨w2.heap.size, 0, none⟩)))).alloc (namedObj av)) := ((Grw.refl (M5 B) w2).setCell (a := ⟨B.tb, i, none⟩) (fun _ => .inl rfl) _).alloc _
  have g : Grw (M5 B) w _ := (hw1.trans h.g).trans g3
  have hn1 := namedAt_new (w2.setCell ⟨B.tb, i, none⟩ (.iface 63 (.pointer (some ⟨w2.heap.size, 0, none⟩)))) av
  rw [szs] at hn1
  have oth : ∀ {bl t f}, w2.rowIs bl t n f → bl ≠ B.tb → ((w2.setCell ⟨B.tb, i, none⟩ (.iface 63 (.pointer (some ⟨w2.heap.size, 0, none⟩)))).alloc (namedObj av)).rowIs bl t n f := fun r h1 => (r.setOther (a := ⟨B.tb, i, none⟩) h1 _).alloc _
  have nM : ∀ x, w1.heap.size ≤ x → ¬ M5 B x := fun x hx e => by rcases e with e | e | e | e | e <;> omega
  have ok' := own_grw h.ok g3 nM
  have oa' := own_grw h.oa g3 nM
  have hFb : FB B ((w2.setCell ⟨B.tb, i, none⟩ (.iface 63 (.pointer (some ⟨w2.heap.size, 0, none⟩)))).alloc (namedObj av)).heap.size w2.heap.size := FB_new bo (by omega) (by rw [sz]; omega)
  have np : ∀ (u : Bool) (k : Nat) (t : Nat → Ky) (hs : Nat → Bool) (y : Nat), (envB B z u k t hs y).np i = mZ z i := fun u k t hs y => Env.np2 (E := envB B z u k t hs y) hk
  refine b.step bo hi hn g ⟨63, w2.heap.size⟩ hj ko ?_ ?_ ?_ ?_ ?_ ⟨fun q => by omega, fun q => by omega, fun _ => rfl, fun q => by omega, fun _ => by show w.heap.size ≤ w2.heap.size; omega, by rw [sz]; show w2.heap.size < _; omega, hh.trans ⟨fun ⟨l, hl, e⟩ => .inr ⟨l, by rw [np]; exact hl, e⟩, fun q => ?_⟩⟩ hFb hn1.pl (fun _ => ⟨hFb, av, hn1, rowK_of_own bo oa' hb1⟩) (fun q => by omega) (by rw [np]; exact rowK_of_own bo ok' hb1)
  · exact (h.rt.set i _).alloc _
  · rw [hk]; exact oth h.rk (by omega)
  · exact (oth h.rp (by omega)).congr (fun j _ => (if_neg (fun q : j = i ∧ kindZ z i = 1 => by have := q.2; omega)).symm)
  · exact oth h.rh (by omega)
  · exact oth h.rc (by omega)
  · rcases q with q | ⟨l, hl, e⟩
    · omega
    · exact ⟨l, by rw [np] at hl; exact hl, e⟩

theorem k2_init {use : Bool} {w0 w : World} (bo : BkOK B) (b : BIn B z use n i w0 w tv has kv) (o : Obj) (kk : Nat) (et : TypeId) (f : Nat → Value) :
    K2 B z n i kk ((w.setCell ⟨B.kb, i, none⟩ (.int .i64 (kk : Int))).alloc o) ((w.setCell ⟨B.kb, i, none⟩ (.int .i64 (kk : Int))).alloc o) tv has kv et f 0 0 (.slice none 0 0) (.slice none 0 0) false ∧ Grw (M5 B) w ((w.setCell ⟨B.kb, i, none⟩ (.int .i64 (kk : Int))).alloc o) := by
  have q1 := bo.tb; have q2 := bo.kb; have q3 := bo.pb; have q4 := bo.cb; have q5 := bo.hb
  have g : Grw (M5 B) w ((w.setCell ⟨B.kb, i, none⟩ (.int .i64 (kk : Int))).alloc o) := ((Grw.refl (M5 B) w).setCell (a := ⟨B.kb, i, none⟩) (fun _ => .inr (.inl rfl)) _).alloc _
  have oth : ∀ {bl t f}, w.rowIs bl t n f → bl ≠ B.kb → ((w.setCell ⟨B.kb, i, none⟩ (.int .i64 (kk : Int))).alloc o).rowIs bl t n f := fun r h1 => (r.setOther (a := ⟨B.kb, i, none⟩) h1 _).alloc _
  refine ⟨⟨Grw.refl _ _, oth b.rt (by omega), (b.rk.set i _).alloc _, oth b.rp (by omega), (oth b.rh (by omega)).congr (fun j _ => ?_), (oth b.rc (by omega)).congr (fun j _ => ?_), ⟨rfl, .inl ⟨rfl, rfl⟩⟩, ⟨rfl, .inl ⟨rfl, rfl⟩⟩, Nat.le_trans b.s1 g.size⟩, g⟩
  · by_cases e : j = i
    · subst e; simp
    · rw [if_neg e]
  · by_cases e : j = i
    · subst e; simp
    · rw [if_neg e]

def K2R (B : Bk) (z : Zs) (n i kk : Nat) (w1 : World) (tv : Nat → Ky) (has : Nat → Bool) (kv : Nat → Value) (m : Nat) (g : Nat) (vj va : Value) (wr : World) : Prop :=
  ∃ j ko hj, j ≤ m ∧ g = m - j ∧ vj = .int .i64 (j : Int) ∧ K2 B z n i kk w1 wr tv has kv 49 (fun l => (tv (kdZ z i l)).val) j j ko va hj ∧ (hj = true ↔ ∃ l, l < j ∧ has (kdZ z i l) = true)
end
end Go.Proofs.Ybulkbebo
