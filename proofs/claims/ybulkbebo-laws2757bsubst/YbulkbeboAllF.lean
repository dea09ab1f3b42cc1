/- mapAll at *Field. -/
import Derived.Test.YbulkbeboAll
namespace Go.Proofs.Ybulkbebo
open Go.RowKit
open Classical
attribute [local go_sem] neq_func75 neq_func76 neq_nil76 as45_45 as53_45 as63_45 as72_45 as45_63 as53_63 as63_63 as72_63 as45_72 as53_72 as63_72 as72_72 as45_95 as53_95 as63_95 as72_95 eql58_none eql58_some eql66_none eql66_some
set_option linter.unusedSimpArgs false
set_option linter.unusedVariables false

def fp (b : Nat) : Value := .pointer (some ⟨b, 0, none⟩)

theorem Yba.i67 : (Yba.prog.info? 67).map (fun i => (i.zero, i.size, i.bytes)) = some (some (.pointer none), 1, 8) := by kernel_rfl

theorem mk66 (m : Nat) (hm : m ≤ 1000) (w : World) : (Instr.makeSlice 66 (.int .i64 0) (.int .i64 (m : Int))).run Yba.prog w = .ok (.slice (some ⟨w.heap.size, 0, none⟩) 0 m) (w.alloc (.cells (madeCells #[.pointer none] m) 67)) := by
  obtain ⟨i0, hi0, hz0, hz1, hz2⟩ := info_parts Yba.i67
  have h := run_make (P := Yba.prog) w 66 67 i0 (.pointer none) Yba.underlying66 hi0 hz0 .i64 .i64 0 (m : Int) (by omega) (by omega) (by rw [hz2]; omega) (by omega)
  simpa [hz1, Value.cells] using h

/-- What mapAll asks of the function it calls, at fields: ch: which are changed; y: what came back so far. -/
structure MapF (fn q m S0 : Nat) (x : Nat → Nat) (ch : Nat → Prop) (v : Value) (I : Nat → (Nat → Nat) → World → Prop) : Prop where
  row : ∀ i y w, I i y w → RowV w v m (fun j => fp (x j))
  pl : ∀ i y w, I i y w → (∀ j, j < m → Plain w (x j)) ∧ ∀ j, j < i → Plain w (y j)
  call : ∀ i y w, i < m → I i y w → Calls Yba.prog fn #[fp (x i), .pointer (some ⟨q, 0, none⟩)] w (fun e w' => ∃ y', (∀ j, j < i → y' j = y j) ∧ e = .returned (fp (y' i)) ∧ I (i + 1) y' w' ∧ (y' i = x i ↔ ¬ ch i) ∧ ((∃ j, j < m ∧ ch j) → Grw (fun j => j < S0) w w'))
  st : (∃ j, j < m ∧ ch j) → ∀ i y w w', I i y w → Grw (fun j => S0 ≤ j ∧ ∃ cs, w.heap[j]? = some (.cells cs 67 (0, 0))) w w' → I i y w'
  sz : ∀ i y w, I i y w → S0 ≤ w.heap.size
  en : ∀ args w, (callFunc fn args).run Yba.prog w = .ok (.enter fn args) w

/-- The rows so far: none, or an own row. -/
def YsF (w : World) (S0 m i : Nat) (x y : Nat → Nat) (ch : Nat → Prop) (ys : Value) : Prop :=
  ((∀ j, j < i → ¬ ch j ∧ y j = x j) ∧ ys = .slice none 0 0) ∨ ((∃ j, j < m ∧ ch j) ∧ 0 < i ∧ ∃ g cap, ys = .slice (some ⟨g, 0, none⟩) i cap ∧ w.ownsRow S0 67 1 ys i (upto (fun j => fp (y j)) i))

def AllFR (S0 m : Nat) (x : Nat → Nat) (ch : Nat → Prop) (I : Nat → (Nat → Nat) → World → Prop) (g : Nat) (vi ys : Value) (w : World) : Prop :=
  ∃ i y, i ≤ m ∧ g = m - i ∧ vi = .int .i64 (i : Int) ∧ I i y w ∧ YsF w S0 m i x y ch ys

def AllFPost (S0 m : Nat) (x : Nat → Nat) (ch : Nat → Prop) (I : Nat → (Nat → Nat) → World → Prop) (e : Ending) (w' : World) : Prop :=
  ∃ v' y, e = .returned v' ∧ I m y w' ∧ YsF w' S0 m m x y ch v'

/-- 'ys = append(ys, y)' onto a row of the call's own. -/
theorem wpList_ysF {ops : Array Oper} {rest : List Oper} {o : Oper} {a : Act} {Q : Exit → Act → World → Prop} {W : World} (hgd : o.guard = none) (s x : Operand)
    (ho : o.op = .call { callee := .builtin .append, args := #[s, x], argTypes := #[66, 66] })
    (S0 i : Nat) (f : Nat → Value) (v u : Value) (w : World) (h : w.ownsRow S0 67 1 v i (upto f i)) (hu : f i = u) (hu1 : u.oneCell' = true) (hS : S0 ≤ w.heap.size) (hn : i ≤ 1000) (hW : W = w.alloc (.cells #[u] 67))
    (hs : a.eval s = v) (hx : a.eval x = .slice (some ⟨w.heap.size, 0, none⟩) 1 1)
    (hK : ∀ k cap w', Hid (w'.ownsRow S0 67 1 (.slice (some ⟨k, 0, none⟩) (i + 1) cap) (i + 1) (upto f (i + 1))) → Hid (Grw (fun j => S0 ≤ j ∧ ∃ cs, w.heap[j]? = some (.cells cs 67 (0, 0))) w w') →
      wpList Yba.prog ops Q rest (a.put o.dst (.slice (some ⟨k, 0, none⟩) (i + 1) cap)) w') :
    wpList Yba.prog ops Q (o :: rest) a W := by
  obtain ⟨i0, hi0, hz0, hz1, hz2⟩ := info_parts Yba.i67
  subst hW
  have hB := heap_alloc_new w (.cells #[u] 67)
  have g1 : Grw None' w (w.alloc (.cells #[u] 67)) := (Grw.refl _ w).alloc _
  have hown : (w.alloc (.cells #[u] 67)).ownsRow S0 67 1 v i (upto f i) := h.kept g1.to_grown (by cases v.ownBlock <;> simp)
  refine wpList_append_lies _ hgd s x 66 ho S0 67 i0 _ 1 8 Yba.underlying66 hi0 hz0 hz1 hz2 rfl (by decide) v i (upto f i) hs hown ⟨w.heap.size, 0, none⟩ 1 1 [u] hx rfl ?_ ?_ (by decide) (by unfold maxLen; omega) (by omega) (Nat.le_trans hS g1.size) _ rfl ?_
  · intro j z hj
    exact news_of_cells hB j z (by simpa using hj)
  · intro z hz
    simp at hz
    subst hz
    exact hu1
  · intro k cap' w' h3 h4 _ _
    refine hK k cap' w' ?_ ?_
    · rw [upto_succ, hu]; exact h3
    · exact ((Grw.refl _ w).alloc _).grown h4 (fun j hj _ => ⟨(h.lt j hj).1, by
        rcases h.2 with ⟨hn, _⟩ | ⟨g, cap, cur, hv, _, hg, _⟩
        · rw [hn] at hj; cases hj
        · rw [hv] at hj
          have e : g = j := by simpa [Value.ownBlock] using hj
          subst e
          exact ⟨cur, hg⟩⟩)


/-- 'append(make([]E, 0, len(xs)), xs[:i]...)'. -/
theorem step_ys0F {ops : Array Oper} {o : Oper} {a : Act} {W : World} {K : Act → World → Prop} {Q : Exit → Act → World → Prop} {E : Prop} (hgd : o.guard = none) (s x : Operand)
    (ho : o.op = .call { callee := .builtin .append, args := #[s, x], argTypes := #[66, 66] })
    (S0 i m c g0 : Nat) (f : Nat → Value) (hf : ∀ j, (f j).oneCell' = true) (w : World) (hSw : S0 ≤ w.heap.size) (hWw : ∀ k : Nat, W.heap[k]? = (w.alloc (.cells (madeCells #[.pointer none] m) 67)).heap[k]?) (hWs : W.heap.size = w.heap.size + 1) (him : i ≤ m) (hm : m ≤ 1000) (hcs : ∀ j, j < i → w.cell? ⟨g0, j, none⟩ = some (f j))
    (hs : a.eval s = .slice (some ⟨w.heap.size, 0, none⟩) 0 m) (hx : a.eval x = .slice (some ⟨g0, 0, none⟩) i c)
    (hK : ∀ v' w', Hid (w'.ownsRow S0 67 1 v' i (upto f i)) → Hid (Grw (fun j => j = w.heap.size) W w') → K (a.put o.dst v') w') :
    if Region.wanted o (yielded ops a.tmps) = true then Oper.wp Yba.prog o a W K Q else E := by
  obtain ⟨i0, hi0, hz0, hz1, hz2⟩ := info_parts Yba.i67
  have hB : W.heap[w.heap.size]? = some (.cells (madeCells #[.pointer none] m) 67 (0, 0)) := (hWw _).trans (heap_alloc_new w _)
  have hown : W.ownsRow S0 67 1 (.slice (some ⟨w.heap.size, 0, none⟩) 0 m) 0 [] := ⟨by simp, .inr ⟨w.heap.size, m, madeCells #[.pointer none] m, rfl, hSw, hB, Nat.zero_le _, by unfold maxLen; omega, by simp [madeCells], by simp⟩⟩
  refine step_append_own hgd s x 66 ho S0 67 i0 _ 1 8 Yba.underlying66 hi0 hz0 hz1 hz2 rfl (by decide) _ 0 [] hs hown ⟨g0, 0, none⟩ i c (upto f i) hx (by rw [upto_length, Nat.mul_one]) ?_ ?_ (by unfold maxLen; omega) (by omega) (by omega) ?_
  · intro j u hj
    obtain ⟨h1, rfl⟩ := upto_get hj
    have h2 := hcs j h1
    have hlt : g0 < w.heap.size := World.block_lt_of_cell? _ _ h2
    have h3 : W.heap[g0]? = w.heap[g0]? := (hWw g0).trans (Go.Deep.blk_alloc_lt _ _ _ hlt)
    have hadd : (⟨g0, 0, none⟩ : Addr).add j = ⟨g0, j, none⟩ := by unfold Addr.add; split <;> simp_all
    rw [hadd]
    exact (cell_same h3 j).trans h2
  · intro u hu
    simp only [upto, List.mem_map] at hu
    obtain ⟨j, _, rfl⟩ := hu
    exact hf j
  · intro v' w' h2 h3
    have h2' : w'.ownsRow S0 67 1 v' i (upto f i) := by simpa using h2
    refine hK v' w' h2' ((Grw.refl _ W).grown h3 (fun j hj _ => ?_))
    simpa [Value.ownBlock] using hj.symm

set_option maxRecDepth 100000 in
set_option maxHeartbeats 4000000 in
theorem mapAll33 (fn q m S0 : Nat) (hm : m ≤ 100) (x : Nat → Nat) (ch : Nat → Prop) (v : Value) (I : Nat → (Nat → Nat) → World → Prop) (H : MapF fn q m S0 x ch v I) (w : World) (y0 : Nat → Nat) (h0 : I 0 y0 w) :
    Calls Yba.prog 33 #[v, .func (.func fn) #[] #[.pointer (some ⟨q, 0, none⟩)]] w (AllFPost S0 m x ch I) := by
  have HH : Hid (MapF fn q m S0 x ch v I) := H
  have hr0 := H.row 0 y0 w h0
  clear H
  obtain ⟨a, cap, rfl, hac⟩ : ∃ a cap, v = .slice a m cap ∧ (a = none → m = 0) := by
    rcases hr0 with ⟨h1, h2⟩ | ⟨g, cap, h1, _⟩
    · exact ⟨none, 0, by rw [h1, h2], fun _ => h2⟩
    · exact ⟨_, cap, h1, fun h => by cases h⟩
  clear hr0
  go_enter Yba.func33, Yba.ntmps33
  go_wp2_with fail
  go_loopg [11, 5] m (fun g vi ys wr => AllFR S0 m x ch I g vi ys wr)
  case atStart => exact ⟨0, y0, Nat.zero_le _, by simp, rfl, h0, .inl ⟨fun j hj => absurd hj (by omega), rfl⟩⟩
  case round =>
    clear h0
    obtain ⟨i, y, hi, hgi, rfl, hI, hys⟩ := hrel
    have Hgi : Hid _ := hgi
    clear hgi
    have HI : Hid (I i y wr) := hI
    by_cases hlt : i < m
    · have hrw := HH.out.row i y wr hI
      clear hI
      obtain ⟨g0, hg0⟩ : ∃ g0, a = some ⟨g0, 0, none⟩ ∧ m ≤ cap ∧ ∀ i, i < m → wr.cell? ⟨g0, i, none⟩ = some (fp (x i)) := by
        rcases hrw with ⟨h1, h2⟩ | ⟨g, cap', h1, h3, h2⟩
        · omega
        · injection h1 with h1 _ h4
          subst h4
          exact ⟨g, h1, h3, h2⟩
      obtain ⟨rfl, hmc, hcs⟩ := hg0
      have hic : i ≤ cap := by omega
      have hci := hcs i hlt
      clear hcs hrw
      have Hys : Hid _ := hys
      clear hys hac
      have Hc : Hid _ := HH.out.call i y wr hlt HI.out
      have hen := HH.out.en
      generalize hx : x i = xi at *
      have Hx : Hid _ := hx
      clear hx
      go_wp2_with fail
      refine Calls.mono Hc.out ?_
      rintro e w1 ⟨y', hyy, rfl, hI1, hyc, hG1⟩
      have Hyy : Hid _ := hyy
      have Hyc : Hid _ := hyc
      clear hyy hyc
      clear Hc hci hen
      have hp1 := HH.out.pl (i + 1) y' w1 hI1
      have hp2 := hp1.1 i hlt
      rw [Hx.out] at hp2
      have he := eql_field w1 (y' i) xi (hp1.2 i (by omega)) hp2
      clear hp2
      have Hup : Hid (upto (fun j => fp (y' j)) i = upto (fun j => fp (y j)) i) := upto_congr (fun j hj => by rw [Hyy.out j hj])
      generalize hy : y' i = yi at *
      have Hy : Hid _ := hy
      clear hy
      have HG1 : Hid _ := hG1
      clear hG1 hp1
      have HI1 : Hid (I (i + 1) y' w1) := hI1
      clear hI1
      by_cases hxy : yi = xi
      · rw [decide_eq_true hxy] at he
        have Hxe : Hid _ := hxy
        clear hxy
        rcases Hys.out with ⟨hall, rfl⟩ | ⟨hch, hi0, g, cap, rfl, hown⟩
        · have Hall : Hid _ := hall
          clear hall
          unfold fp
          go_wp2_with fail
          go_roundg (m - (i + 1))
          case measure => rw [Hgi.out]; omega
          case rel =>
            refine ⟨i + 1, y', by omega, rfl, by go_num, HI1.out, .inl ⟨fun j hj => ?_, rfl⟩⟩
            by_cases hji : j < i
            · rw [Hyy.out j hji]; exact Hall.out j hji
            · obtain rfl : j = i := by omega
              have h3 : y' j = x j := by rw [Hx.out, Hy.out, Hxe.out]
              exact ⟨Hyc.out.1 Hxe.out, h3⟩
        · have Hi0 : Hid (0 < i) := hi0
          clear hi0
          have Hch : Hid _ := hch
          clear hch
          have Ho1 : Hid (w1.ownsRow S0 67 1 (.slice (some ⟨g, 0, none⟩) i cap) i (upto (fun j => fp (y' j)) i)) := by rw [Hup.out]; exact own_grw hown (HG1.out Hch.out) (fun k h1 h2 => by omega)
          clear hown
          have Hs1 : Hid (S0 ≤ w1.heap.size) := HH.out.sz _ _ _ HI1.out
          have Hyv : Hid (fp (y' i) = .pointer (some ⟨yi, 0, none⟩)) := by rw [Hy.out]; rfl
          unfold fp
          go_wp2_with (at_builtin; refine wpList_ysF rfl (.tmp 35) (.tmp 37) rfl S0 i (fun j => fp (y' j)) _ _ w1 Ho1.out Hyv.out rfl Hs1.out (by omega) rfl rfl rfl ?_; intro k2 cap2 w2 ho2 hg2)
          go_roundg (m - (i + 1))
          case measure => rw [Hgi.out]; omega
          case rel => exact ⟨i + 1, y', by omega, rfl, by go_num, HH.out.st Hch.out _ _ _ _ HI1.out hg2.out, .inr ⟨Hch.out, by omega, _, _, rfl, ho2.out⟩⟩
      · rw [decide_eq_false hxy] at he
        have Hch : Hid (∃ j, j < m ∧ ch j) := ⟨i, hlt, Classical.byContradiction (fun h => hxy (Hyc.out.2 h))⟩
        clear hxy
        have Hs1 : Hid (S0 ≤ w1.heap.size) := HH.out.sz _ _ _ HI1.out
        have Hyv : Hid (fp (y' i) = .pointer (some ⟨yi, 0, none⟩)) := by rw [Hy.out]; rfl
        rcases Hys.out with ⟨hall, rfl⟩ | ⟨_, hi0, g, cap, rfl, hown⟩
        · have Hall : Hid _ := hall
          clear hall
          unfold fp
          have hmk := mk66 m (by omega)
          have Hcs : Hid (∀ j, j < i → w1.cell? ⟨g0, j, none⟩ = some (fp (y' j))) := fun j hj => by
            rcases HH.out.row (i + 1) y' w1 HI1.out with ⟨_, h2⟩ | ⟨g, cap', h1, _, h2⟩
            · omega
            · injection h1 with h1 _ _
              injection h1 with h1
              injection h1 with h1
              subst h1
              rw [Hyy.out j hj, (Hall.out j hj).2]
              exact h2 j (by omega)
          go_wp2_with fail
          go_region_law (refine step_ys0F rfl (.tmp 30) (.tmp 33) rfl S0 i m cap g0 (fun j => fp (y' j)) (fun j => rfl) w1 Hs1.out (fun k => rfl) (by simp [go_sem]) (by omega) (by omega) Hcs.out (by simp [Act.eval, Act.put]) (by simp [Act.eval, Act.put]) ?_; intro v' w2 ho2 hg2)
          have g12 : Hid (Grw None' w1 w2) := Grw.step (by repeat (first | exact Grw.refl _ _ | apply Grw.drew | apply Grw.alloc)) hg2.out (fun j h1 h2 => by omega)
          clear hg2 hmk
          have Hs2 : Hid (S0 ≤ w2.heap.size) := Nat.le_trans Hs1.out g12.out.size
          go_wp2_with (at_builtin; refine wpList_ysF rfl (.tmp 35) (.tmp 37) rfl S0 i (fun j => fp (y' j)) _ _ w2 ho2.out Hyv.out rfl Hs2.out (by omega) rfl rfl rfl ?_; intro k2 cap2 w3 ho3 hg3)
          go_roundg (m - (i + 1))
          case measure => rw [Hgi.out]; omega
          case rel => exact ⟨i + 1, y', by omega, rfl, by go_num, HH.out.st Hch.out _ _ _ _ (HH.out.st Hch.out _ _ _ _ HI1.out (g12.out.mono (fun _ _ e => e.elim))) hg3.out, .inr ⟨Hch.out, by omega, _, _, rfl, ho3.out⟩⟩
        · have Hi0 : Hid (0 < i) := hi0
          clear hi0
          have Ho1 : Hid (w1.ownsRow S0 67 1 (.slice (some ⟨g, 0, none⟩) i cap) i (upto (fun j => fp (y' j)) i)) := by rw [Hup.out]; exact own_grw hown (HG1.out Hch.out) (fun k h1 h2 => by omega)
          clear hown
          unfold fp
          go_wp2_with (at_builtin; refine wpList_ysF rfl (.tmp 35) (.tmp 37) rfl S0 i (fun j => fp (y' j)) _ _ w1 Ho1.out Hyv.out rfl Hs1.out (by omega) rfl rfl rfl ?_; intro k2 cap2 w2 ho2 hg2)
          go_roundg (m - (i + 1))
          case measure => rw [Hgi.out]; omega
          case rel => exact ⟨i + 1, y', by omega, rfl, by go_num, HH.out.st Hch.out _ _ _ _ HI1.out hg2.out, .inr ⟨Hch.out, by omega, _, _, rfl, ho2.out⟩⟩
    · obtain rfl : i = m := by omega
      go_wp2_with fail
      go_ret
      exact ⟨_, y, rfl, HI.out, hys⟩
end Go.Proofs.Ybulkbebo
