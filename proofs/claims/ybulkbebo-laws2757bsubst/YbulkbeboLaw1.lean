/- What the law lays first. -/
import Derived.Test.YbulkbeboLaw0
namespace Go.Proofs.Ybulkbebo
open Go.RowKit
open Classical
attribute [local go_sem] neq_func75 neq_func76 neq_nil76 as45_45 as53_45 as63_45 as72_45 as45_63 as53_63 as63_63 as72_63 as45_72 as53_72 as63_72 as72_72 as45_95 as53_95 as63_95 as72_95 eql58_none eql58_some eql66_none eql66_some
set_option linter.unusedSimpArgs false
set_option linter.unusedVariables false

theorem Yba.i3 : (Yba.prog.info? 3).map (fun i => (i.zero, i.size, i.bytes)) = some (some (.int .i64 0), 1, 8) := by kernel_rfl
theorem Yba.i23 : (Yba.prog.info? 23).map (fun i => (i.zero, i.size, i.bytes)) = some (some (.slice none 0 0), 1, 24) := by kernel_rfl
theorem Yba.i4 : (Yba.prog.info? 4).map (fun i => (i.zero, i.size, i.bytes)) = some (some (.bool false), 1, 1) := by kernel_rfl

theorem mkr58 (n : Nat) (hn : n ≤ 256) (w : World) : (Instr.makeSlice 58 (.int .i64 (n : Int)) (.int .i64 (n : Int))).run Yba.prog w = .ok (.slice (some ⟨w.heap.size, 0, none⟩) n n) (w.alloc (.cells (madeCells #[.nilIface] n) 49)) := run_make_row' 58 49 .nilIface 16 Yba.underlying58 Yba.i49 rfl .i64 .i64 n (by omega) (by omega) w
theorem mkr23 (n : Nat) (hn : n ≤ 256) (w : World) : (Instr.makeSlice 23 (.int .i64 (n : Int)) (.int .i64 (n : Int))).run Yba.prog w = .ok (.slice (some ⟨w.heap.size, 0, none⟩) n n) (w.alloc (.cells (madeCells #[.int .i64 0] n) 3)) := run_make_row' 23 3 (.int .i64 0) 8 Yba.underlying23 Yba.i3 rfl .i64 .i64 n (by omega) (by omega) w
theorem mkr59 (n : Nat) (hn : n ≤ 256) (w : World) : (Instr.makeSlice 59 (.int .i64 (n : Int)) (.int .i64 (n : Int))).run Yba.prog w = .ok (.slice (some ⟨w.heap.size, 0, none⟩) n n) (w.alloc (.cells (madeCells #[.slice none 0 0] n) 23)) := run_make_row' 59 23 (.slice none 0 0) 24 Yba.underlying59 Yba.i23 rfl .i64 .i64 n (by omega) (by omega) w
theorem mkr60 (n : Nat) (hn : n ≤ 256) (w : World) : (Instr.makeSlice 60 (.int .i64 (n : Int)) (.int .i64 (n : Int))).run Yba.prog w = .ok (.slice (some ⟨w.heap.size, 0, none⟩) n n) (w.alloc (.cells (madeCells #[.bool false] n) 4)) := run_make_row' 60 4 (.bool false) 1 Yba.underlying60 Yba.i4 rfl .i64 .i64 n (by omega) (by omega) w

/-- The objects laid ahead of the loop. -/
def lawObjs (S n : Nat) : List Obj :=
  [.cells #[.string ⟨#[65]⟩, .int .i64 0, .int .i64 0, .int .i64 0, .nilIface] 51, .cells #[.string ⟨#[66]⟩, .int .i64 0, .int .i64 0, .int .i64 1, .nilIface] 51, .cells #[.string ⟨#[67]⟩, .int .i64 0, .int .i64 0, .int .i64 2, .nilIface] 51,
   .cells #[.pointer (some ⟨S, 0, none⟩), .pointer (some ⟨S + 1, 0, none⟩), .pointer (some ⟨S + 1 + 1, 0, none⟩)] 45, .cells #[.slice (some ⟨S + 1 + 1 + 1, 0, none⟩) 3 3] 52,
   .cells #[.int .i64 0] 56, .cells #[.int .i64 2] 56, .cells #[.int .i64 3] 56,
   .cells #[.pointer (some ⟨S + 1 + 1 + 1 + 1 + 1, 0, none⟩), .pointer (some ⟨S + 1 + 1 + 1 + 1 + 1 + 1, 0, none⟩), .pointer (some ⟨S + 1 + 1 + 1 + 1 + 1 + 1 + 1, 0, none⟩)] 53, .cells #[.slice (some ⟨S + 1 + 1 + 1 + 1 + 1 + 1 + 1 + 1, 0, none⟩) 3 3] 57,
   .cells (madeCells #[.nilIface] n) 49, .cells (madeCells #[.int .i64 0] n) 3, .cells (madeCells #[.int .i64 0] n) 3, .cells (madeCells #[.slice none 0 0] n) 23, .cells (madeCells #[.bool false] n) 4]

def lawA (w : World) (n : Nat) : World := (lawObjs w.heap.size n).foldl World.alloc w

def lawB (S : Nat) : Bk := ⟨S, S + 1 + 1 + 1 + 1, S + 1 + 1 + 1, S + 1 + 1 + 1 + 1 + 1 + 1 + 1 + 1 + 1, S + 1 + 1 + 1 + 1 + 1 + 1 + 1 + 1, S + 1 + 1 + 1 + 1 + 1 + 1 + 1 + 1 + 1 + 1, S + 1 + 1 + 1 + 1 + 1 + 1 + 1 + 1 + 1 + 1 + 1, S + 1 + 1 + 1 + 1 + 1 + 1 + 1 + 1 + 1 + 1 + 1 + 1, S + 1 + 1 + 1 + 1 + 1 + 1 + 1 + 1 + 1 + 1 + 1 + 1 + 1, S + 1 + 1 + 1 + 1 + 1 + 1 + 1 + 1 + 1 + 1 + 1 + 1 + 1 + 1⟩

theorem lawB_ok (S : Nat) : BkOK (lawB S) := ⟨rfl, rfl, rfl, rfl, rfl, rfl, rfl, rfl, rfl⟩

theorem allocs_heap : ∀ (l : List Obj) (w : World), (l.foldl World.alloc w).heap = w.heap ++ l.toArray
  | [], w => by simp
  | o :: l, w => by
    have := allocs_heap l (w.alloc o)
    simp only [List.foldl_cons]
    rw [this]
    simp only [World.alloc]
    apply Array.ext'
    simp

theorem allocs_get (l : List Obj) (w : World) (k : Nat) : (l.foldl World.alloc w).heap[w.heap.size + k]? = l[k]? := by
  rw [allocs_heap, Array.getElem?_append_right (by omega)]
  simp

theorem lawA_grw (w : World) (n : Nat) : Grw None' w (lawA w n) := (Grw.refl _ w).aft ⟨lawObjs w.heap.size n, 0⟩
theorem lawA_size (w : World) (n : Nat) : (lawA w n).heap.size = w.heap.size + 15 := by
  unfold lawA
  rw [allocs_heap]
  simp [lawObjs]
theorem lawA_get (w : World) (n k : Nat) (o : Obj) (h : (lawObjs w.heap.size n)[k]? = some o) : (lawA w n).heap[w.heap.size + k]? = some o := by
  unfold lawA
  rw [allocs_get, h]

theorem made_row (w : World) (b n : Nat) (x : Value) (t : TypeId) (h : w.heap[b]? = some (.cells (madeCells #[x] n) t (0, 0))) : w.rowIs b t n (fun _ => x) :=
  ⟨_, h, size_madeCells _ _, fun i hi => by simp [madeCells, hi, Nat.mod_one]⟩

theorem bin0 (w : World) (n : Nat) (z : Zs) (use : Bool) : BIn (lawB w.heap.size) z use n 0 w (lawA w n) (fun _ => ⟨0, 0⟩) (fun _ => false) (fun _ => .slice none 0 0) := by
  have g := fun k o h => lawA_get w n k o h
  have s := lawA_size w n
  have bo := lawB_ok w.heap.size
  have FB' : ∀ k, k < 10 → FB (lawB w.heap.size) (lawA w n).heap.size (w.heap.size + k) := fun k hk => by
    have h1 := bo.tb; have h2 := bo.kb; have h3 := bo.pb; have h4 := bo.cb; have h5 := bo.hb
    have hS : (lawB w.heap.size).S = w.heap.size := rfl
    exact ⟨by omega, by omega, by omega, by omega, by omega, by omega⟩
  have c := fun (b o : Nat) (cs : Array Value) (t : TypeId) (h : (lawA w n).heap[b]? = some (.cells cs t (0, 0))) => cell_of_row (lawA w n) b o cs t (0, 0) h
  refine ⟨⟨by show 0 ≤ 256; omega, fun i j h => absurd h (Nat.not_lt_zero _), fun i h => absurd h (Nat.not_lt_zero _), fun i h => absurd h (Nat.not_lt_zero _), fun i h => absurd h (Nat.not_lt_zero _), fun i h => absurd h (Nat.not_lt_zero _), fun i h => absurd h (Nat.not_lt_zero _), fun i h => absurd h (Nat.not_lt_zero _), fun i h => absurd h (Nat.not_lt_zero _), fun i j h => absurd h (Nat.not_lt_zero _), fun p q _ _ e => ?_, fun i h => absurd h (Nat.not_lt_zero _), fun i h => absurd h (Nat.not_lt_zero _)⟩,
    ⟨fun i h => absurd h (Nat.not_lt_zero _), fun i h => absurd h (Nat.not_lt_zero _), fun i h => absurd h (Nat.not_lt_zero _), ⟨?_, fun i hi => ?_⟩, ⟨FB' 4 (by omega), FB' 3 (by omega), fun i hi => ⟨FB' i (by omega), ?_⟩⟩, ⟨?_, fun i hi => ?_⟩, ⟨FB' 9 (by omega), FB' 8 (by omega), fun i hi => ⟨?_, ?_⟩⟩, ?_, FB' 4 (by omega)⟩,
    (made_row _ _ n .nilIface 49 (g 10 _ rfl)).congr (fun j _ => by simp), (made_row _ _ n (.int .i64 0) 3 (g 11 _ rfl)).congr (fun j _ => by simp), (made_row _ _ n (.int .i64 0) 3 (g 12 _ rfl)).congr (fun j _ => by simp), (made_row _ _ n (.bool false) 4 (g 14 _ rfl)).congr (fun j _ => by simp), (made_row _ _ n (.slice none 0 0) 23 (g 13 _ rfl)).congr (fun j _ => by simp), fun j h => absurd h (Nat.not_lt_zero _), lawA_grw w n, rfl, by rw [s]; exact Nat.le_refl _⟩
  · have e2 : w.heap.size + p = w.heap.size + q := e
    omega
  · exact (c (w.heap.size + 4) 0 _ _ (g 4 _ rfl)).trans rfl
  · refine (c (w.heap.size + 3) i _ _ (g 3 _ rfl)).trans ?_
    rcases (by omega : i = 0 ∨ i = 1 ∨ i = 2) with rfl | rfl | rfl <;> rfl
  · rcases (by omega : i = 0 ∨ i = 1 ∨ i = 2) with rfl | rfl | rfl
    · exact ⟨_, _, g 0 _ rfl⟩
    · exact ⟨_, _, g 1 _ rfl⟩
    · exact ⟨_, _, g 2 _ rfl⟩
  · exact (c (w.heap.size + 9) 0 _ _ (g 9 _ rfl)).trans rfl
  · refine (c (w.heap.size + 8) i _ _ (g 8 _ rfl)).trans ?_
    rcases (by omega : i = 0 ∨ i = 1 ∨ i = 2) with rfl | rfl | rfl <;> rfl
  · show FB (lawB w.heap.size) (lawA w n).heap.size (w.heap.size + 5 + i)
    rw [Nat.add_assoc]; exact FB' (5 + i) (by omega)
  · rcases (by omega : i = 0 ∨ i = 1 ∨ i = 2) with rfl | rfl | rfl
    · exact ⟨_, _, g 5 _ rfl⟩
    · exact ⟨_, _, g 6 _ rfl⟩
    · exact ⟨_, _, g 7 _ rfl⟩
  · exact (c (w.heap.size + 4) 0 _ _ (g 4 _ rfl)).trans rfl
/-- Kind 0. -/
theorem bin_kind0 {B : Bk} {z : Zs} {use : Bool} {n i : Nat} {w0 w : World} {tv : Nat → Ky} {has : Nat → Bool} {kv : Nat → Value} (bo : BkOK B) (b : BIn B z use n i w0 w tv has kv) (hi : i < n) (hn : n ≤ 256) (hk : kindZ z i = 0) (o1 : Obj) (c : Array Value) :
    BIn B z use n (i + 1) w0 ((((w.setCell ⟨B.kb, i, none⟩ (.int .i64 0)).setCell ⟨B.tb, i, none⟩ (.iface 53 (.pointer (some ⟨w.heap.size + 1, 0, none⟩)))).alloc o1).alloc (.cells c 56)) (updK tv i ⟨53, w.heap.size + 1⟩) (updB has i false) (updV kv i (.slice none 0 0)) := by
  have b1 := bo.tb; have b2 := bo.kb; have b3 := bo.pb; have b4 := bo.cb; have b5 := bo.hb
  have sz : ((((w.setCell ⟨B.kb, i, none⟩ (.int .i64 0)).setCell ⟨B.tb, i, none⟩ (.iface 53 (.pointer (some ⟨w.heap.size + 1, 0, none⟩)))).alloc o1).alloc (.cells c 56)).heap.size = w.heap.size + 2 := by
    simp only [World.alloc, Array.size_push, Go.Deep.nblk_setCell]
  have g : Grw (M5 B) w ((((w.setCell ⟨B.kb, i, none⟩ (.int .i64 0)).setCell ⟨B.tb, i, none⟩ (.iface 53 (.pointer (some ⟨w.heap.size + 1, 0, none⟩)))).alloc o1).alloc (.cells c 56)) :=
    ((((Grw.refl (M5 B) w).setCell (a := ⟨B.kb, i, none⟩) (fun _ => .inr (.inl rfl)) _).setCell (a := ⟨B.tb, i, none⟩) (fun _ => .inl rfl) _).alloc _).alloc _
  have s1 := b.s1
  have hnew : ((((w.setCell ⟨B.kb, i, none⟩ (.int .i64 0)).setCell ⟨B.tb, i, none⟩ (.iface 53 (.pointer (some ⟨w.heap.size + 1, 0, none⟩)))).alloc o1).alloc (.cells c 56)).heap[w.heap.size + 1]? = some (.cells c 56 (0, 0)) := by
    have h := heap_alloc_new (((w.setCell ⟨B.kb, i, none⟩ (.int .i64 0)).setCell ⟨B.tb, i, none⟩ (.iface 53 (.pointer (some ⟨w.heap.size + 1, 0, none⟩)))).alloc o1) (.cells c 56)
    have e : (((w.setCell ⟨B.kb, i, none⟩ (.int .i64 0)).setCell ⟨B.tb, i, none⟩ (.iface 53 (.pointer (some ⟨w.heap.size + 1, 0, none⟩)))).alloc o1).heap.size = w.heap.size + 1 := by simp only [World.alloc, Array.size_push, Go.Deep.nblk_setCell]
    rw [e] at h
    exact h
  have other : ∀ {bl t f}, w.rowIs bl t n f → bl ≠ B.kb → bl ≠ B.tb → ((((w.setCell ⟨B.kb, i, none⟩ (.int .i64 0)).setCell ⟨B.tb, i, none⟩ (.iface 53 (.pointer (some ⟨w.heap.size + 1, 0, none⟩)))).alloc o1).alloc (.cells c 56)).rowIs bl t n f := fun h h1 h2 => (((h.setOther (a := ⟨B.kb, i, none⟩) h1 _).setOther (a := ⟨B.tb, i, none⟩) h2 _).alloc _).alloc _
  refine b.step bo hi hn g ⟨53, w.heap.size + 1⟩ false (.slice none 0 0) ?_ ?_ ?_ ?_ ?_ ⟨fun _ => rfl, fun h => by omega, fun h => by omega, fun h => by omega, fun _ => by show w.heap.size ≤ w.heap.size + 1; omega, by rw [sz]; show w.heap.size + 1 < _; omega, ⟨fun h => by simp at h, fun h => ?_⟩⟩ (FB_new bo (by show B.S + 15 ≤ w.heap.size + 1; omega) (by rw [sz]; show w.heap.size + 1 < _; omega)) ⟨_, _, hnew⟩ (fun h => by omega) (fun h => by omega) (.inl ⟨rfl, Env.np0 (E := envB B z use i tv has w.heap.size) (.inl hk)⟩)
  · exact ((((b.rt.setOther (a := ⟨B.kb, i, none⟩) (by show B.tb ≠ B.kb; omega) _).set i _).alloc _).alloc _)
  · rw [hk]
    exact ((((b.rk.set i _).setOther (a := ⟨B.tb, i, none⟩) (by show B.kb ≠ B.tb; omega) _).alloc _).alloc _)
  · exact (other b.rp (by omega) (by omega)).congr (fun j _ => (if_neg (fun h : j = i ∧ kindZ z i = 1 => by have := h.2; omega)).symm)
  · refine (other b.rh (by omega) (by omega)).congr (fun j _ => ?_)
    by_cases e : j = i
    · subst e; simp
    · rw [if_neg e]
  · refine (other b.rc (by omega) (by omega)).congr (fun j _ => ?_)
    by_cases e : j = i
    · subst e; simp
    · rw [if_neg e]
  · rcases h with h | ⟨j, hj, _⟩
    · omega
    · have := npB0 hj
      have h0 : (envB B z true 0 (fun _ => (⟨53, w.heap.size + 1⟩ : Ky)) has 0).np i = 0 := Env.np0 (.inl hk)
      omega
/-- Kind 1. -/
theorem bin_kind1 {B : Bk} {z : Zs} {use : Bool} {n i : Nat} {w0 w : World} {tv : Nat → Ky} {has : Nat → Bool} {kv : Nat → Value} (bo : BkOK B) (b : BIn B z use n i w0 w tv has kv) (hi : i < n) (hn : n ≤ 256) (hk : kindZ z i = 1) (px : Nat) (hp : pZ z i = px) (o1 : Obj) :
    BIn B z use n (i + 1) w0 (((((w.setCell ⟨B.kb, i, none⟩ (.int .i64 1)).setCell ⟨B.pb, i, none⟩ (.int .i64 (px : Int))).setCell ⟨B.tb, i, none⟩ (.iface 45 (.pointer (some ⟨B.S + px, 0, none⟩)))).setCell ⟨B.hb, i, none⟩ (.bool true)).alloc o1).drew (updK tv i ⟨45, B.S + px⟩) (updB has i true) (updV kv i (.slice none 0 0)) := by
  have b1 := bo.tb; have b2 := bo.kb; have b3 := bo.pb; have b4 := bo.cb; have b5 := bo.hb
  subst hp
  have hpx : pZ z i < 3 := by unfold pZ; omega
  have g : Grw (M5 B) w (((((w.setCell ⟨B.kb, i, none⟩ (.int .i64 1)).setCell ⟨B.pb, i, none⟩ (.int .i64 (pZ z i : Int))).setCell ⟨B.tb, i, none⟩ (.iface 45 (.pointer (some ⟨B.S + pZ z i, 0, none⟩)))).setCell ⟨B.hb, i, none⟩ (.bool true)).alloc o1).drew :=
    ((((((Grw.refl (M5 B) w).setCell (a := ⟨B.kb, i, none⟩) (fun _ => .inr (.inl rfl)) _).setCell (a := ⟨B.pb, i, none⟩) (fun _ => .inr (.inr (.inl rfl))) _).setCell (a := ⟨B.tb, i, none⟩) (fun _ => .inl rfl) _).setCell (a := ⟨B.hb, i, none⟩) (fun _ => .inr (.inr (.inr (.inr rfl)))) _).alloc _).drew
  have s1 := b.s1
  have gs := g.size
  have hpl := b.dag.fpool.2.2 (pZ z i) hpx
  have hF0 : FB B w.heap.size (B.S + pZ z i) := hpl.1
  have hP0 : Plain w (B.S + pZ z i) := hpl.2
  refine b.step bo hi hn g ⟨45, B.S + pZ z i⟩ true (.slice none 0 0) ?_ ?_ ?_ ?_ ?_ ⟨fun h => by omega, fun _ => rfl, fun h => by omega, fun h => by omega, fun h => absurd hk h, Nat.lt_of_lt_of_le hF0.1 gs, ⟨fun _ => .inl hk, fun _ => rfl⟩⟩ (FB_mono hF0 gs) (hP0.grw g (FB_M5 hF0)) (fun h => by omega) (fun h => by omega) (.inl ⟨rfl, Env.np0 (E := envB B z use i tv has w.heap.size) (.inr hk)⟩)
  · exact (((((b.rt.setOther (a := ⟨B.kb, i, none⟩) (by show B.tb ≠ B.kb; omega) _).setOther (a := ⟨B.pb, i, none⟩) (by show B.tb ≠ B.pb; omega) _).set i _).setOther (a := ⟨B.hb, i, none⟩) (by show B.tb ≠ B.hb; omega) _).alloc _).drew
  · rw [hk]
    exact (((((b.rk.set i _).setOther (a := ⟨B.pb, i, none⟩) (by show B.kb ≠ B.pb; omega) _).setOther (a := ⟨B.tb, i, none⟩) (by show B.kb ≠ B.tb; omega) _).setOther (a := ⟨B.hb, i, none⟩) (by show B.kb ≠ B.hb; omega) _).alloc _).drew
  · refine ((((((b.rp.setOther (a := ⟨B.kb, i, none⟩) (by show B.pb ≠ B.kb; omega) _).set i _).setOther (a := ⟨B.tb, i, none⟩) (by show B.pb ≠ B.tb; omega) _).setOther (a := ⟨B.hb, i, none⟩) (by show B.pb ≠ B.hb; omega) _).alloc _).drew).congr (fun j _ => ?_)
    by_cases e : j = i
    · exact (if_pos e).trans (if_pos (⟨e, hk⟩ : j = i ∧ kindZ z i = 1)).symm
    · exact (if_neg e).trans (if_neg (fun h : j = i ∧ kindZ z i = 1 => e h.1)).symm
  · exact (((((b.rh.setOther (a := ⟨B.kb, i, none⟩) (by show B.hb ≠ B.kb; omega) _).setOther (a := ⟨B.pb, i, none⟩) (by show B.hb ≠ B.pb; omega) _).setOther (a := ⟨B.tb, i, none⟩) (by show B.hb ≠ B.tb; omega) _).set i _).alloc _).drew
  · refine ((((((b.rc.setOther (a := ⟨B.kb, i, none⟩) (by show B.cb ≠ B.kb; omega) _).setOther (a := ⟨B.pb, i, none⟩) (by show B.cb ≠ B.pb; omega) _).setOther (a := ⟨B.tb, i, none⟩) (by show B.cb ≠ B.tb; omega) _).setOther (a := ⟨B.hb, i, none⟩) (by show B.cb ≠ B.hb; omega) _).alloc _).drew).congr (fun j _ => ?_)
    by_cases e : j = i
    · subst e; simp
    · rw [if_neg e]
end Go.Proofs.Ybulkbebo
