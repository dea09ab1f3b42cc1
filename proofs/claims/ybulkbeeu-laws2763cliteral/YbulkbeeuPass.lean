/- (*glob).passes. -/
import Derived.Test.YbulkbeeuGlob
namespace Go.Proofs.Ybulkbeeu
open Go.RowKit
set_option linter.unusedSimpArgs false
set_option linter.unusedVariables false

theorem Yba.i50 : (Yba.prog.info? 50).map (fun i => (i.zero, i.size, i.bytes)) = some (some (.agg #[.int .i64 0, .bool false]), 2, 16) := by kernel_rfl

def ents (l : List Nat) : List Value := l.flatMap fun X => [Value.int .i64 (((X : Nat) : Int) / 2), Value.bool (fl X)]

theorem grown_trans {a b c : World} {row : Option Nat} (h : a.grownBy b row) (k : b.grownBy c row) : a.grownBy c row :=
  ⟨k.os.trans h.os, k.tape.trans h.tape, k.output.trans h.output, Nat.le_trans h.size k.size, fun i hi hr => (k.block i (Nat.lt_of_lt_of_le hi h.size) hr).trans (h.block i hi hr)⟩

theorem grown_aft (w : World) (x : Aft) (row : Option Nat) : w.grownBy (aft w x) row := by
  have h := aft_below w x
  exact ⟨h.os, h.tape, h.output, h.size, fun k hk _ => h.block k hk⟩

/-- What 'passes' hands back. -/
def PassPost (w : World) (base : Nat) (ao : Option Addr) (cap : Nat) (l : List Nat) (t : Bool) (e : Ending) (w' : World) : Prop :=
  ∃ ao' cap', e = .returned (.tuple #[.slice ao' l.length cap', .bool t]) ∧ w'.ownsRow base 50 2 (.slice ao' l.length cap') l.length (ents l) ∧ w.grownBy w' (Value.slice ao 0 cap).ownBlock ∧
    ((Value.slice ao' l.length cap').ownBlock = (Value.slice ao 0 cap).ownBlock ∨ ∃ k, (Value.slice ao' l.length cap').ownBlock = some k ∧ w.heap.size ≤ k)

theorem own_aft {w : World} {base : Nat} {v : Value} {n size : Nat} {e : TypeId} {xs : List Value} (h : w.ownsRow base e size v n xs) (x : Aft) : (aft w x).ownsRow base e size v n xs := by
  have hg := grown_aft w x none
  refine h.kept hg ?_
  cases hv : v.ownBlock
  · exact .inl rfl
  · right; simp

theorem PassPost.same {w : World} {base : Nat} {ao : Option Addr} {cap : Nat} {t : Bool} (h : w.ownsRow base 50 2 (.slice ao 0 cap) 0 []) (x : Aft) :
    PassPost w base ao cap [] t (.returned (.tuple #[.slice ao 0 cap, .bool t])) (aft w x) :=
  ⟨ao, cap, rfl, own_aft h x, grown_aft w x _, .inl rfl⟩

theorem wpList_push50 {ops : Array Oper} {rest : List Oper} {o : Oper} {a : Act} {Q : Exit → Act → World → Prop} {W : World} (hgd : o.guard = none) (s x : Operand)
    (ho : o.op = .call { callee := .builtin .append, args := #[s, x], argTypes := #[54, 54] })
    (w : World) (base : Nat) (ao : Option Addr) (cap : Nat) (hown : w.ownsRow base 50 2 (.slice ao 0 cap) 0 []) (hbase : base ≤ w.heap.size) (y : Aft) (hW : W = aft w y)
    (hs : a.eval s = .slice ao 0 cap) (B3 : Nat) (hx : a.eval x = .slice (some ⟨B3, 0, none⟩) 1 1) (Y : Nat) (av : Int) (fv : Bool)
    (ha : W.cell? ⟨B3, 0, none⟩ = some (.int .i64 av)) (hf : W.cell? ⟨B3, 1, none⟩ = some (.bool fv)) (hav : av = (Y : Int) / 2) (hfv : fv = fl Y)
    (h : ∀ k c w', Hid (∀ t, PassPost w base ao cap [Y] t (.returned (.tuple #[.slice (some ⟨k, 0, none⟩) 1 c, .bool t])) w') → wpList Yba.prog ops Q rest (a.put o.dst (.slice (some ⟨k, 0, none⟩) 1 c)) w') :
    wpList Yba.prog ops Q (o :: rest) a W := by
  obtain ⟨i0, hi0, hz0, hz1, hz2⟩ := info_parts Yba.i50
  subst hav
  subst hfv
  subst hW
  have hsz := (grown_aft w y none).size
  refine wpList_append_lies _ hgd s x 54 ho base 50 i0 _ 2 16 Yba.underlying54 hi0 hz0 hz1 hz2 rfl (by decide) _ 0 [] hs (own_aft hown y) ⟨B3, 0, none⟩ 1 1 [.int .i64 ((Y : Int) / 2), .bool (fl Y)] hx rfl ?_ ?_ (by decide) (by unfold maxLen; omega) (by omega) (by omega) _ rfl ?_
  · intro j u hj
    match j, hj with
    | 0, hj => simp at hj; subst hj; exact ha
    | 1, hj => simp at hj; subst hj; simpa [Addr.add] using hf
    | j + 2, hj => simp at hj
  · intro u hu
    simp at hu
    rcases hu with rfl | rfl <;> rfl
  · intro k c w' h1 h2 h3 h4
    refine h k c w' fun t => ⟨_, _, rfl, ?_, grown_trans (grown_aft w y _) h2, ?_⟩
    · simpa [ents] using h1
    · rcases h3 with h3 | h3
      · exact .inl h3.symm
      · exact .inr ⟨k, rfl, by omega⟩

set_option maxHeartbeats 400000 in
theorem passes_end (w : World) (B bb g : Nat) (M : Mach) (so co : Option Addr) (sc cc : Nat) (hg : GlobAt w B bb g M so co sc cc) (hB : B ≤ w.heap.size) (hok : M.Ok) (f : Bool)
    (base : Nat) (ao : Option Addr) (cap : Nat) (hown : w.ownsRow base 50 2 (.slice ao 0 cap) 0 []) :
    Calls Yba.prog 16 #[.pointer (some ⟨g, 0, none⟩), .agg #[.int .i64 M.n, .bool f], .slice ao 0 cap] w (PassPost w base ao cap [] false) := by
  have gc := hg.cs
  have n1 := hok.n256
  have hgl : g < w.heap.size := by have := hg.gB; omega
  clear hg hok
  generalize M.n = n at *
  go_enter Yba.func16, Yba.ntmps16
  go_wp2_with fail
  go_quiet (fail)
  go_wp2_with fail
  go_ret2
  exact PassPost.same hown ⟨[_], nq⟩

set_option maxHeartbeats 400000 in
theorem passes_in (w : World) (B bb g : Nat) (M : Mach) (so co : Option Addr) (sc cc : Nat) (hg : GlobAt w B bb g M so co sc cc) (hB : B ≤ w.heap.size) (hok : M.Ok) (i : Nat) (hi : i < M.n) (f : Bool)
    (base : Nat) (ao : Option Addr) (cap : Nat) (hown : w.ownsRow base 50 2 (.slice ao 0 cap) 0 []) (hbase : base ≤ w.heap.size) (l : List Nat) (t : Bool) (hl : M.to (enc i f) = l) (ht : M.tk (enc i f) = t) :
    Calls Yba.prog 16 #[.pointer (some ⟨g, 0, none⟩), .agg #[.int .i64 i, .bool f], .slice ao 0 cap] w (PassPost w base ao cap l t) := by
  obtain ⟨b, rfl, hbB, _, s0, s1, s2, s3⟩ := hg.st i hi
  have gc := hg.cs
  have n1 := hok.n256
  have hgl : g < w.heap.size := by have := hg.gB; omega
  have hbl : b < w.heap.size := by omega
  have ho := hok.op i hi
  have hne : ((i : Int) == (M.n : Int)) = false := beq_eq_false_iff_ne.2 (by omega)
  have hni : ¬ i = M.n := by omega
  unfold Mach.to at hl
  unfold Mach.tk at ht
  rw [enc_div, if_neg hni] at hl ht
  have hmod : enc i f % 2 = 1 ↔ f = true := by cases f <;> simp [enc]
  by_cases h0 : (M.at i).op = 0
  · rw [if_pos h0] at hl ht
    rw [h0] at s0
    by_cases hb : (M.at i).b = 47
    · rw [hb] at s1
      cases f
      · rw [if_neg (by rw [hmod]; simp)] at hl ht
        subst hl
        subst ht
        clear hg hok ho h0 hb hmod
        generalize M.n = n at *
        generalize (M.at i).arg = arg at *
        go_enter Yba.func16, Yba.ntmps16
        go_wp2_with fail
        go_quiet (fail)
        go_wp2_with fail
        go_region
        all_goals
          go_wp2_with fail
          go_ret2
          exact PassPost.same hown ⟨[_, _], nq + 1⟩
      · rw [if_pos ⟨hb, hmod.2 rfl⟩] at hl ht
        subst hl
        subst ht
        clear hg hok ho h0 hb hmod
        generalize M.n = n at *
        generalize (M.at i).arg = arg at *
        go_enter Yba.func16, Yba.ntmps16
        go_wp2_with fail
        go_quiet (fail)
        go_wp2_with fail
        go_region
        all_goals
          go_wp2_with (at_builtin; refine wpList_push50 rfl (.tmp 39) (.tmp 44) rfl w base ao cap hown hbase ⟨[_, _, _], nq + 1⟩ rfl rfl _ rfl (2 * (i + 1) + 1) ((i : Int) + 1) true (by go_simp) (by go_simp) (by omega) (fl_odd _).symm ?_; intro k c w' hpp)
          go_ret2
          exact hpp.out false
    · rw [if_neg (by simp [hb])] at hl ht
      subst hl
      subst ht
      have hb' : (((M.at i).b : Int) == 47) = false := beq_eq_false_iff_ne.2 (by omega)
      clear hg hok ho h0 hb hmod
      generalize M.n = n at *
      generalize (M.at i).arg = arg at *
      generalize ((M.at i).b : Int) = bt at *
      go_enter Yba.func16, Yba.ntmps16
      go_wp2_with fail
      go_quiet (fail)
      go_wp2_with fail
      go_region
      all_goals
        go_wp2_with fail
        go_ret2
        exact PassPost.same hown ⟨[_, _], nq + 1⟩
  · rw [if_neg h0] at hl ht
    subst ht
    by_cases h2 : (M.at i).op = 2
    · rw [if_pos h2] at hl
      rw [h2] at s0
      subst hl
      clear hg hok ho h0 h2 hmod
      generalize M.n = n at *
      generalize (M.at i).arg = arg at *
      generalize ((M.at i).b : Int) = bt at *
      go_enter Yba.func16, Yba.ntmps16
      go_wp2_with fail
      go_quiet (fail)
      go_wp2_with fail
      go_region
      all_goals
        go_wp2_with (at_builtin; refine wpList_push50 rfl (.tmp 48) (.tmp 53) rfl w base ao cap hown hbase ⟨[_, _, _], nq + 1⟩ rfl rfl _ rfl (2 * (i + 1)) ((i : Int) + 1) false (by go_simp) (by go_simp) (by omega) (fl_even _).symm ?_; intro k c w' hpp)
        go_ret2
        exact hpp.out true
    · rw [if_neg h2] at hl
      have h1 : (M.at i).op = 1 := by omega
      rw [h1] at s0
      subst hl
      clear hg hok ho h0 h2 h1 hmod
      generalize M.n = n at *
      generalize (M.at i).arg = arg at *
      generalize ((M.at i).b : Int) = bt at *
      go_enter Yba.func16, Yba.ntmps16
      go_wp2_with fail
      go_quiet (fail)
      go_wp2_with fail
      go_region
      all_goals
        go_wp2_with fail
        go_ret2
        exact PassPost.same hown ⟨[_, _], nq + 1⟩

theorem passes_any (w : World) (B bb g : Nat) (M : Mach) (so co : Option Addr) (sc cc : Nat) (hg : GlobAt w B bb g M so co sc cc) (hB : B ≤ w.heap.size) (hok : M.Ok) (X : Nat) (hX : X < 2 * (M.n + 1))
    (base : Nat) (ao : Option Addr) (cap : Nat) (hown : w.ownsRow base 50 2 (.slice ao 0 cap) 0 []) (hbase : base ≤ w.heap.size) :
    Calls Yba.prog 16 #[.pointer (some ⟨g, 0, none⟩), entV X, .slice ao 0 cap] w (PassPost w base ao cap (M.to X) (M.tk X)) := by
  have e : entV X = .agg #[.int .i64 ((X / 2 : Nat) : Int), .bool (fl X)] := by unfold entV; rw [show ((X : Int) / 2) = ((X / 2 : Nat) : Int) from by omega]
  rw [e]
  by_cases hn : X / 2 = M.n
  · have h1 : M.to X = [] := by unfold Mach.to; rw [if_pos hn]
    have h2 : M.tk X = false := by unfold Mach.tk; rw [if_pos hn]
    rw [h1, h2, hn]
    exact passes_end w B bb g M so co sc cc hg hB hok _ base ao cap hown
  · exact passes_in w B bb g M so co sc cc hg hB hok (X / 2) (by omega) (fl X) base ao cap hown hbase _ _ (by rw [enc_back]) (by rw [enc_back])

end Go.Proofs.Ybulkbeeu
