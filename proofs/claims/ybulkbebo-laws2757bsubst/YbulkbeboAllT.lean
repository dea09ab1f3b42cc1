/- mapAll at Type. -/
import Derived.Test.YbulkbeboAll
namespace Go.Proofs.Ybulkbebo
open Go.RowKit
open Classical
attribute [local go_sem] neq_func75 neq_func76 neq_nil76 as45_45 as53_45 as63_45 as72_45 as45_63 as53_63 as63_63 as72_63 as45_72 as53_72 as63_72 as72_72 as45_95 as53_95 as63_95 as72_95 eql58_none eql58_some eql66_none eql66_some
set_option linter.unusedSimpArgs false
set_option linter.unusedVariables false

/-- What mapAll asks of the function it calls, at elements of Type. -/
structure MapT (fn q m S0 : Nat) (x y : Nat → Ky) (v : Value) (I : Nat → World → Prop) : Prop where
  row : ∀ i w, I i w → RowV w v m (fun j => (x j).val)
  pl : ∀ i w, I i w → ∀ j, j < m → (x j).ok ∧ Plain w (x j).b ∧ (y j).ok ∧ Plain w (y j).b
  call : ∀ i w, i < m → I i w → Calls Yba.prog fn #[(x i).val, .pointer (some ⟨q, 0, none⟩)] w (fun e w' => e = .returned (y i).val ∧ I (i + 1) w' ∧ ((∃ j, j < m ∧ y j ≠ x j) → Grw (fun j => j < S0) w w'))
  st : (∃ j, j < m ∧ y j ≠ x j) → ∀ i w w', I i w → Grw (fun j => S0 ≤ j) w w' → I i w'
  sz : ∀ i w, I i w → S0 ≤ w.heap.size
  en : ∀ args w, (callFunc fn args).run Yba.prog w = .ok (.enter fn args) w

/-- The rows so far: none, or an own row. -/
def YsT (w : World) (S0 m i : Nat) (x y : Nat → Ky) (ys : Value) : Prop :=
  ((∀ j, j < i → y j = x j) ∧ ys = .slice none 0 0) ∨ ((∃ j, j < m ∧ y j ≠ x j) ∧ 0 < i ∧ ∃ g cap, ys = .slice (some ⟨g, 0, none⟩) i cap ∧ w.ownsRow S0 49 1 ys i (upto (fun j => (y j).val) i))

def AllTR (S0 m : Nat) (x y : Nat → Ky) (I : Nat → World → Prop) (g : Nat) (vi ys : Value) (w : World) : Prop :=
  ∃ i, i ≤ m ∧ g = m - i ∧ vi = .int .i64 (i : Int) ∧ I i w ∧ YsT w S0 m i x y ys

def AllTPost (S0 m : Nat) (x y : Nat → Ky) (I : Nat → World → Prop) (e : Ending) (w' : World) : Prop :=
  ∃ v', e = .returned v' ∧ I m w' ∧ YsT w' S0 m m x y v'


/-- 'ys = append(ys, y)' onto a row of the call's own. -/
theorem wpList_ys {ops : Array Oper} {rest : List Oper} {o : Oper} {a : Act} {Q : Exit → Act → World → Prop} {W : World} (hgd : o.guard = none) (s x : Operand)
    (ho : o.op = .call { callee := .builtin .append, args := #[s, x], argTypes := #[58, 58] })
    (S0 i : Nat) (f : Nat → Value) (v u : Value) (w : World) (h : w.ownsRow S0 49 1 v i (upto f i)) (hu : f i = u) (hu1 : u.oneCell' = true) (hS : S0 ≤ w.heap.size) (hn : i ≤ 1000) (hW : W = w.alloc (.cells #[u] 49))
    (hs : a.eval s = v) (hx : a.eval x = .slice (some ⟨w.heap.size, 0, none⟩) 1 1)
    (hK : ∀ k cap w', Hid (w'.ownsRow S0 49 1 (.slice (some ⟨k, 0, none⟩) (i + 1) cap) (i + 1) (upto f (i + 1))) → Hid (Grw (fun j => S0 ≤ j) w w') →
      wpList Yba.prog ops Q rest (a.put o.dst (.slice (some ⟨k, 0, none⟩) (i + 1) cap)) w') :
    wpList Yba.prog ops Q (o :: rest) a W := by
  obtain ⟨i0, hi0, hz0, hz1, hz2⟩ := info_parts Yba.i49
  subst hW
  have hB := heap_alloc_new w (.cells #[u] 49)
  have g1 : Grw None' w (w.alloc (.cells #[u] 49)) := (Grw.refl _ w).alloc _
  have hown : (w.alloc (.cells #[u] 49)).ownsRow S0 49 1 v i (upto f i) := h.kept g1.to_grown (by cases v.ownBlock <;> simp)
  refine wpList_append_lies _ hgd s x 58 ho S0 49 i0 _ 1 16 Yba.underlying58 hi0 hz0 hz1 hz2 rfl (by decide) v i (upto f i) hs hown ⟨w.heap.size, 0, none⟩ 1 1 [u] hx rfl ?_ ?_ (by decide) (by unfold maxLen; omega) (by omega) (Nat.le_trans hS g1.size) _ rfl ?_
  · intro j z hj
    exact news_of_cells hB j z (by simpa using hj)
  · intro z hz
    simp at hz
    subst hz
    exact hu1
  · intro k cap' w' h3 h4 _ _
    refine hK k cap' w' ?_ ?_
    · rw [upto_succ, hu]; exact h3
    · exact ((Grw.refl _ w).alloc _).grown h4 (fun j hj _ => (h.lt j hj).1)


/-- 'append(make([]E, 0, len(xs)), xs[:i]...)'. -/
theorem step_ys0 {ops : Array Oper} {o : Oper} {a : Act} {W : World} {K : Act → World → Prop} {Q : Exit → Act → World → Prop} {E : Prop} (hgd : o.guard = none) (s x : Operand)
    (ho : o.op = .call { callee := .builtin .append, args := #[s, x], argTypes := #[58, 58] })
    (S0 i m c g0 : Nat) (f : Nat → Value) (hf : ∀ j, (f j).oneCell' = true) (w : World) (hSw : S0 ≤ w.heap.size) (hWw : ∀ k : Nat, W.heap[k]? = (w.alloc (.cells (madeCells #[.nilIface] m) 49)).heap[k]?) (hWs : W.heap.size = w.heap.size + 1) (him : i ≤ m) (hm : m ≤ 1000) (hcs : ∀ j, j < i → w.cell? ⟨g0, j, none⟩ = some (f j))
    (hs : a.eval s = .slice (some ⟨w.heap.size, 0, none⟩) 0 m) (hx : a.eval x = .slice (some ⟨g0, 0, none⟩) i c)
    (hK : ∀ v' w', Hid (w'.ownsRow S0 49 1 v' i (upto f i)) → Hid (Grw (fun j => S0 ≤ j) W w') → K (a.put o.dst v') w') :
    if Region.wanted o (yielded ops a.tmps) = true then Oper.wp Yba.prog o a W K Q else E := by
  obtain ⟨i0, hi0, hz0, hz1, hz2⟩ := info_parts Yba.i49
  have hB : W.heap[w.heap.size]? = some (.cells (madeCells #[.nilIface] m) 49 (0, 0)) := (hWw _).trans (heap_alloc_new w _)
  have hown : W.ownsRow S0 49 1 (.slice (some ⟨w.heap.size, 0, none⟩) 0 m) 0 [] := ⟨by simp, .inr ⟨w.heap.size, m, madeCells #[.nilIface] m, rfl, hSw, hB, Nat.zero_le _, by unfold maxLen; omega, by simp [madeCells], by simp⟩⟩
  refine step_append_own hgd s x 58 ho S0 49 i0 _ 1 16 Yba.underlying58 hi0 hz0 hz1 hz2 rfl (by decide) _ 0 [] hs hown ⟨g0, 0, none⟩ i c (upto f i) hx (by rw [upto_length, Nat.mul_one]) ?_ ?_ (by unfold maxLen; omega) (by omega) (by omega) ?_
  · intro j u hj
    obtain ⟨h1, rfl⟩ := upto_get hj
    have h2 := hcs j h1
    have hlt : g0 < w.heap.size := World.block_lt_of_cell? _ _ h2
    have h3 : W.heap[g0]? = w.heap[g0]? := (hWw g0).trans (Go.Deep.blk_alloc_lt _ _ _ hlt)
    have hadd : (⟨g0, 0, none⟩ : Addr).add j = ⟨g0, j, none⟩ := by unfold Addr.add; split <;> simp_all
    rw [hadd]
    exact (cell_same h3 j).trans h2
  · intro u hu
    simp only [upto, List.mem_map] at hu
    obtain ⟨j, _, rfl⟩ := hu
    exact hf j
  · intro v' w' h2 h3
    have h2' : w'.ownsRow S0 49 1 v' i (upto f i) := by simpa using h2
    refine hK v' w' h2' ((Grw.refl _ W).grown h3 (fun j hj _ => ?_))
    simp [Value.ownBlock] at hj
    omega

set_option maxRecDepth 100000 in
set_option maxHeartbeats 4000000 in
theorem mapAll32 (fn q m S0 : Nat) (hm : m ≤ 100) (x y : Nat → Ky) (v : Value) (I : Nat → World → Prop) (H : MapT fn q m S0 x y v I) (w : World) (h0 : I 0 w) :
    Calls Yba.prog 32 #[v, .func (.func fn) #[] #[.pointer (some ⟨q, 0, none⟩)]] w (AllTPost S0 m x y I) := by
  have HH : Hid (MapT fn q m S0 x y v I) := H
  have hr0 := H.row 0 w h0
  clear H
  obtain ⟨a, cap, rfl, hac⟩ : ∃ a cap, v = .slice a m cap ∧ (a = none → m = 0) := by
    rcases hr0 with ⟨h1, h2⟩ | ⟨g, cap, h1, _⟩
    · exact ⟨none, 0, by rw [h1, h2], fun _ => h2⟩
    · exact ⟨_, cap, h1, fun h => by cases h⟩
  clear hr0
  go_enter Yba.func32, Yba.ntmps32
  go_wp2_with fail
  go_loopg [11, 5] m (fun g vi ys wr => AllTR S0 m x y I g vi ys wr)
  case atStart => exact ⟨0, Nat.zero_le _, by simp, rfl, h0, .inl ⟨fun j hj => absurd hj (by omega), rfl⟩⟩
  case round =>
    clear h0
    obtain ⟨i, hi, hgi, rfl, hI, hys⟩ := hrel
    have Hgi : Hid _ := hgi
    clear hgi
    have HI : Hid (I i wr) := hI
    by_cases hlt : i < m
    · have hrw := HH.out.row i wr hI
      clear hI
      obtain ⟨g0, hg0⟩ : ∃ g0, a = some ⟨g0, 0, none⟩ ∧ m ≤ cap ∧ ∀ i, i < m → wr.cell? ⟨g0, i, none⟩ = some (x i).val := by
        rcases hrw with ⟨h1, h2⟩ | ⟨g, cap', h1, h3, h2⟩
        · omega
        · injection h1 with h1 _ h4
          subst h4
          exact ⟨g, h1, h3, h2⟩
      obtain ⟨rfl, hmc, hcs⟩ := hg0
      have hic : i ≤ cap := by omega
      have hci := hcs i hlt
      clear hcs hrw
      have Hys : Hid _ := hys
      clear hys hac
      have Hc : Hid _ := HH.out.call i wr hlt HI.out
      have Hxy : Hid (∀ j, j < m → y j ≠ x j → ∃ j, j < m ∧ y j ≠ x j) := fun j h1 h2 => ⟨j, h1, h2⟩
      have hen := HH.out.en
      generalize hx : x i = xi at *
      generalize hy : y i = yi at *
      have Hx : Hid _ := hx
      have Hy : Hid _ := hy
      clear hx hy
      go_wp2_with fail
      refine Calls.mono Hc.out ?_
      rintro e w1 ⟨rfl, hI1, hG1⟩
      clear Hc hci hen
      have hp1 := HH.out.pl (i + 1) w1 hI1 i hlt
      rw [Hx.out, Hy.out] at hp1
      have he := eql_ky w1 yi xi hp1.2.2.1 hp1.2.2.2 hp1.2.1
      have HG1 : Hid _ := hG1
      clear hG1 hp1
      have HI1 : Hid (I (i + 1) w1) := hI1
      clear hI1
      by_cases hxy : yi = xi
      · rw [decide_eq_true hxy] at he
        have Hxe : Hid _ := hxy
        clear hxy
        unfold Ky.val at he
        rcases Hys.out with ⟨hall, rfl⟩ | ⟨hch, hi0, g, cap, rfl, hown⟩
        · have Hall : Hid _ := hall
          clear hall
          unfold Ky.val
          go_wp2_with fail
          go_roundg (m - (i + 1))
          case measure => rw [Hgi.out]; omega
          case rel =>
            refine ⟨i + 1, by omega, rfl, by go_num, HI1.out, .inl ⟨fun j hj => ?_, rfl⟩⟩
            by_cases hji : j < i
            · exact Hall.out j hji
            · obtain rfl : j = i := by omega
              rw [Hx.out, Hy.out, Hxe.out]
        · have Hi0 : Hid (0 < i) := hi0
          clear hi0
          have Hch : Hid _ := hch
          clear hch
          have Ho1 : Hid (w1.ownsRow S0 49 1 (.slice (some ⟨g, 0, none⟩) i cap) i (upto (fun j => (y j).val) i)) := own_grw hown (HG1.out Hch.out) (fun k h1 h2 => by omega)
          clear hown
          have Hs1 : Hid (S0 ≤ w1.heap.size) := HH.out.sz _ _ HI1.out
          have Hyv : Hid ((y i).val = .iface yi.t (.pointer (some ⟨yi.b, 0, none⟩))) := by rw [Hy.out]; rfl
          unfold Ky.val
          go_wp2_with (at_builtin; refine wpList_ys rfl (.tmp 35) (.tmp 37) rfl S0 i (fun j => (y j).val) _ _ w1 Ho1.out Hyv.out rfl Hs1.out (by omega) rfl rfl rfl ?_; intro k2 cap2 w2 ho2 hg2)
          go_roundg (m - (i + 1))
          case measure => rw [Hgi.out]; omega
          case rel => exact ⟨i + 1, by omega, rfl, by go_num, HH.out.st Hch.out _ _ _ HI1.out hg2.out, .inr ⟨Hch.out, by omega, _, _, rfl, ho2.out⟩⟩
      · rw [decide_eq_false hxy] at he
        have Hch : Hid (∃ j, j < m ∧ y j ≠ x j) := ⟨i, hlt, by rw [Hx.out, Hy.out]; exact hxy⟩
        clear hxy
        unfold Ky.val at he
        have Hs1 : Hid (S0 ≤ w1.heap.size) := HH.out.sz _ _ HI1.out
        have Hyv : Hid ((y i).val = .iface yi.t (.pointer (some ⟨yi.b, 0, none⟩))) := by rw [Hy.out]; rfl
        rcases Hys.out with ⟨hall, rfl⟩ | ⟨_, hi0, g, cap, rfl, hown⟩
        · have Hall : Hid _ := hall
          clear hall
          unfold Ky.val
          have hmk := mk58 m (by omega)
          have Hcs : Hid (∀ j, j < i → w1.cell? ⟨g0, j, none⟩ = some (y j).val) := fun j hj => by
            rcases HH.out.row (i + 1) w1 HI1.out with ⟨_, h2⟩ | ⟨g, cap', h1, _, h2⟩
            · omega
            · injection h1 with h1 _ _
              injection h1 with h1
              injection h1 with h1
              subst h1
              rw [Hall.out j hj]
              exact h2 j (by omega)
          go_wp2_with fail
          go_region_law (refine step_ys0 rfl (.tmp 30) (.tmp 33) rfl S0 i m cap g0 (fun j => (y j).val) (fun j => rfl) w1 Hs1.out (fun k => rfl) (by simp [go_sem]) (by omega) (by omega) Hcs.out (by simp [Act.eval, Act.put]) (by simp [Act.eval, Act.put]) ?_; intro v' w2 ho2 hg2)
          have g12 : Hid (Grw (fun j => S0 ≤ j) w1 w2) := Grw.trans (by repeat (first | exact Grw.refl _ _ | apply Grw.drew | apply Grw.alloc)) hg2.out
          clear hg2 hmk
          have Hs2 : Hid (S0 ≤ w2.heap.size) := Nat.le_trans Hs1.out g12.out.size
          go_wp2_with (at_builtin; refine wpList_ys rfl (.tmp 35) (.tmp 37) rfl S0 i (fun j => (y j).val) _ _ w2 ho2.out Hyv.out rfl Hs2.out (by omega) rfl rfl rfl ?_; intro k2 cap2 w3 ho3 hg3)
          go_roundg (m - (i + 1))
          case measure => rw [Hgi.out]; omega
          case rel => exact ⟨i + 1, by omega, rfl, by go_num, HH.out.st Hch.out _ _ _ HI1.out (g12.out.trans hg3.out), .inr ⟨Hch.out, by omega, _, _, rfl, ho3.out⟩⟩
        · have Hi0 : Hid (0 < i) := hi0
          clear hi0
          have Ho1 : Hid (w1.ownsRow S0 49 1 (.slice (some ⟨g, 0, none⟩) i cap) i (upto (fun j => (y j).val) i)) := own_grw hown (HG1.out Hch.out) (fun k h1 h2 => by omega)
          clear hown
          unfold Ky.val
          go_wp2_with (at_builtin; refine wpList_ys rfl (.tmp 35) (.tmp 37) rfl S0 i (fun j => (y j).val) _ _ w1 Ho1.out Hyv.out rfl Hs1.out (by omega) rfl rfl rfl ?_; intro k2 cap2 w2 ho2 hg2)
          go_roundg (m - (i + 1))
          case measure => rw [Hgi.out]; omega
          case rel => exact ⟨i + 1, by omega, rfl, by go_num, HH.out.st Hch.out _ _ _ HI1.out hg2.out, .inr ⟨Hch.out, by omega, _, _, rfl, ho2.out⟩⟩
    · obtain rfl : i = m := by omega
      go_wp2_with fail
      go_ret
      exact ⟨_, rfl, HI.out, hys⟩
end Go.Proofs.Ybulkbebo
