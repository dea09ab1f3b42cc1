/- zzs2764bbuild. -/
import Derived.Test.YbulkbefiClone
namespace Go.Proofs.Ybulkbefi
open Go.RowKit
set_option linter.unusedSimpArgs false
set_option linter.unusedVariables false

def tgS (zs : List Int) (k : Nat) : Int := ((zs.take k).map (· + 1)).sum
def tgOf (zs : List Int) (i : Nat) : Int := tgS zs (i + 1)
def kkOf (i : Nat) : Int := i

def RowAt (w : World) (a : Option Addr) (len : Nat) (zs : List Int) : Prop :=
  len ≤ zs.length ∧ ∀ i, i < len → ∃ x, a = some x ∧ w.cell? (x.add i) = some (.int .u8 (zs.getD i 0)) ∧ 0 ≤ zs.getD i 0 ∧ zs.getD i 0 < 256

theorem RowAt.grown {w w' : World} {a : Option Addr} {len : Nat} {zs : List Int} (h : RowAt w a len zs) (hg : w.grownBy w' none) : RowAt w' a len zs :=
  ⟨h.1, fun i hi => by
    obtain ⟨x, e, hc, h2⟩ := h.2 i hi
    exact ⟨x, e, hg.cell hc (by simp), h2⟩⟩

theorem tgS_succ (zs : List Int) (k : Nat) (h : k < zs.length) : tgS zs (k + 1) = tgS zs k + (zs.getD k 0 + 1) := by
  unfold tgS
  rw [List.take_succ_eq_append_getElem h, List.map_append, List.sum_append, List.getD_eq_getElem?_getD, List.getElem?_eq_getElem h]
  simp

theorem tgS_bound {w : World} {a : Option Addr} {len : Nat} {zs : List Int} (hr : RowAt w a len zs) : ∀ k, k ≤ len → 0 ≤ tgS zs k ∧ tgS zs k ≤ 256 * (k : Int)
  | 0, _ => by simp [tgS]
  | k + 1, h => by
    have ih := tgS_bound hr k (by omega)
    obtain ⟨_, _, _, h1, h2⟩ := hr.2 k (by omega)
    rw [tgS_succ zs k (by have := hr.1; omega)]
    omega

theorem tg_sorted {w : World} {a : Option Addr} {len : Nat} {zs : List Int} (hr : RowAt w a len zs) : Sorted len (tgOf zs) := by
  have step : ∀ d i, i + d < len → tgOf zs i ≤ tgOf zs (i + d) := by
    intro d
    induction d with
    | zero => intro i _; exact Int.le_refl _
    | succ d ih =>
      intro i h
      have h1 := ih i (by omega)
      obtain ⟨_, _, _, h2, _⟩ := hr.2 (i + d + 1) (by omega)
      have h3 := tgS_succ zs (i + d + 1) (by have := hr.1; omega)
      unfold tgOf at *
      rw [show i + (d + 1) + 1 = i + d + 1 + 1 from by omega]
      omega
  refine ⟨fun i j hij hj => ?_⟩
  have := step (j - i) i (by omega)
  rwa [show i + (j - i) = j from by omega] at this

structure BMade (w0 w : World) (G n : Nat) (tg kk : Nat → Int) (ao : Option Addr) (cap : Nat) : Prop where
  g0 : w0.heap.size ≤ G
  bs : G + 1 ≤ w.heap.size
  kn : Known w G ao n cap
  own : w.ownsRow (G + 1) 31 4 (.slice ao n cap) n (cellsV tg kk n)
  gr : w0.grownBy w none

theorem own_aft {w : World} {base : Nat} {v : Value} {n size : Nat} {e : TypeId} {xs : List Value} (h : w.ownsRow base e size v n xs) (x : Aft) : (aft w x).ownsRow base e size v n xs := by
  have hg := grown_aft w x none
  refine h.kept hg ?_
  cases hv : v.ownBlock
  · exact .inl rfl
  · right; simp

theorem BMade.aft {w0 w : World} {G n : Nat} {tg kk : Nat → Int} {ao : Option Addr} {cap : Nat} (h : BMade w0 w G n tg kk ao cap) (x : Aft) : BMade w0 (Ybulkbefi.aft w x) G n tg kk ao cap := by
  have hb := aft_below w x
  have a3 := h.bs; have a4 := hb.size
  exact ⟨h.g0, by omega, h.kn.keep (hb.block G (by omega)), own_aft h.own x, grown_trans h.gr (grown_aft w x none)⟩

theorem BMade.ownNe {w0 w : World} {G n : Nat} {tg kk : Nat → Int} {ao : Option Addr} {cap : Nat} (h : BMade w0 w G n tg kk ao cap) : some G ≠ (Value.slice ao n cap).ownBlock := by
  intro e
  have := (h.own.lt G e.symm).1
  omega

theorem BMade.push {w0 w w' : World} {G n : Nat} {tg kk : Nat → Int} {ao ao' : Option Addr} {cap cap' : Nat} (h : BMade w0 w G n tg kk ao cap)
    (hown : w'.ownsRow (G + 1) 31 4 (.slice ao' (n + 1) cap') (n + 1) (cellsV tg kk (n + 1))) (hg : w.grownBy w' (Value.slice ao n cap).ownBlock) :
    BMade w0 (w'.setCell ⟨G, 3, none⟩ (.slice ao' (n + 1) cap')) G (n + 1) tg kk ao' cap' := by
  have hsz := hg.size
  have hsz2 := (grown_setCell w' ⟨G, 3, none⟩ (.slice ao' (n + 1) cap')).size
  have a1 := h.g0; have a3 := h.bs
  have hk2 := h.kn.keep (hg.block G (by omega) h.ownNe)
  have g1 : w0.grownBy w' none := grown_of_above h.gr hg (fun j hj => by have := (h.own.lt j hj).1; omega)
  have ho : ∀ o, o ≠ 3 → (w'.setCell ⟨G, 3, none⟩ (.slice ao' (n + 1) cap')).cell? ⟨G, o, none⟩ = w'.cell? ⟨G, o, none⟩ := fun o h => by
    apply World.cell?_setCell_other
    simp [Ne.symm h]
  refine ⟨a1, by omega, ⟨(ho 0 (by omega)).trans hk2.c0, World.cell?_setCell_same _ _ _ hk2.c3, (ho 4 (by omega)).trans hk2.c4, by rw [World.frozen?_setCell]; exact hk2.f3⟩, ?_, grown_of_above g1 (grown_setCell w' ⟨G, 3, none⟩ _) (fun j hj => by simp at hj; omega)⟩
  have := ownsRow_setCell_below hown (a := ⟨G, 3, none⟩) (by simp) (.slice ao' (n + 1) cap')
  simpa using this

/-- 'k.pairs = append(k.pairs, e)': the append. -/
theorem wpList_push31 {ops : Array Oper} {rest : List Oper} {o : Oper} {a : Act} {Q : Exit → Act → World → Prop} {W : World} (hgd : o.guard = none) (s x : Operand)
    (ho : o.op = .call { callee := .builtin .append, args := #[s, x], argTypes := #[26, 26] })
    (w0 w : World) (G n : Nat) (tg kk : Nat → Int) (ao : Option Addr) (cap : Nat) (h : BMade w0 w G n tg kk ao cap) (hn : n ≤ 1024) (t i : Int) (ht : tg n = t) (hi : kk n = i)
    (hW : W = w.alloc (.cells #[.int .u64 t, .int .i64 i, .string ⟨#[]⟩, .bool false] 31))
    (hs : a.eval s = .slice ao n cap) (hx : a.eval x = .slice (some ⟨w.heap.size, 0, none⟩) 1 1)
    (hK : ∀ k cap' w', Hid (BMade w0 (w'.setCell ⟨G, 3, none⟩ (.slice (some ⟨k, 0, none⟩) (n + 1) cap')) G (n + 1) tg kk (some ⟨k, 0, none⟩) cap') →
      w'.cell? ⟨G, 3, none⟩ = some (.slice ao n cap) → w'.frozen? ⟨G, 3, none⟩ = false →
      wpList Yba.prog ops Q rest (a.put o.dst (.slice (some ⟨k, 0, none⟩) (n + 1) cap')) w') :
    wpList Yba.prog ops Q (o :: rest) a W := by
  obtain ⟨i0, hi0, hz0, hz1, hz2⟩ := info_parts Yba.i31
  have h2 := h.aft ⟨[.cells #[.int .u64 t, .int .i64 i, .string ⟨#[]⟩, .bool false] 31], 0⟩
  have hW2 : W = Ybulkbefi.aft w ⟨[.cells #[.int .u64 t, .int .i64 i, .string ⟨#[]⟩, .bool false] 31], 0⟩ := hW
  rw [← hW2] at h2
  refine wpList_append_lies _ hgd s x 26 ho (G + 1) 31 i0 _ 4 40 Yba.underlying26 hi0 hz0 hz1 hz2 rfl (by decide) _ n (cellsV tg kk n) hs h2.own ⟨w.heap.size, 0, none⟩ 1 1 [.int .u64 t, .int .i64 i, .string ⟨#[]⟩, .bool false] hx rfl ?_ ?_ (by decide) (by unfold maxLen; omega) (by omega) h2.bs _ rfl ?_
  · intro j u hj
    rw [hW]
    match j, hj with
    | 0, hj => simp at hj; subst hj; simp [Addr.add]
    | 1, hj => simp at hj; subst hj; simp [Addr.add]
    | 2, hj => simp at hj; subst hj; simp [Addr.add]
    | 3, hj => simp at hj; subst hj; simp [Addr.add]
    | j + 4, hj => simp at hj
  · intro u hu
    simp at hu
    rcases hu with rfl | rfl | rfl | rfl <;> rfl
  · intro k cap' w' h3 h4 _ _
    have hk2 := h2.kn.keep (h4.block G (by have := h2.bs; omega) h2.ownNe)
    refine hK k cap' w' (h2.push ?_ h4) hk2.c3 hk2.f3
    rw [cellsV_snoc, ht, hi]
    exact h3

def BuildR (w wr : World) (G len : Nat) (zs : List Int) (g : Nat) (vi vt : Value) : Prop :=
  ∃ k ao cap, k ≤ len ∧ g = len - k ∧ vi = .int .i64 k ∧ vt = .int .u64 (tgS zs k) ∧ (k = 0 → ao = none ∧ cap = 0) ∧ BMade w wr G k (tgOf zs) kkOf ao cap

def BuildPost (w : World) (len : Nat) (zs : List Int) (e : Ending) (w' : World) : Prop :=
  ∃ G ao cap, e = .returned (.pointer (some ⟨G, 0, none⟩)) ∧ (len = 0 → ao = none ∧ cap = 0) ∧ BMade w w' G len (tgOf zs) kkOf ao cap

set_option maxRecDepth 100000 in
set_option maxHeartbeats 2000000 in
theorem build_any (w : World) (a : Option Addr) (len cap : Nat) (zs : List Int) (hr : RowAt w a len zs) (hl : len ≤ 1024) : Calls Yba.prog 5 #[.slice a len cap] w (BuildPost w len zs) := by
  have hm0 : BMade w (w.alloc (.cells #[.string ⟨#[120]⟩, .int .u8 1, .bool false, .slice none 0 0, .slice none 0 0] 37)) w.heap.size 0 (tgOf zs) kkOf none 0 := by
    refine ⟨Nat.le_refl _, by simp [go_sem], ⟨by go_simp, by go_simp, by go_simp, by go_simp⟩, ⟨by simp [cellsV], .inl ⟨rfl, rfl⟩⟩, grown_aft w ⟨[.cells #[.string ⟨#[120]⟩, .int .u8 1, .bool false, .slice none 0 0, .slice none 0 0] 37], 0⟩ none⟩
  have Hm0 : Hid _ := hm0
  clear hm0
  go_enter Yba.func5, Yba.ntmps5
  go_wp2_with fail
  have hm0 := Hm0.out
  clear Hm0
  generalize w.alloc (.cells #[.string ⟨#[120]⟩, .int .u8 1, .bool false, .slice none 0 0, .slice none 0 0] 37) = w1 at *
  obtain ⟨G, hG⟩ : ∃ G, G = w.heap.size := ⟨_, rfl⟩
  rw [← hG] at hm0 ⊢
  clear hG
  go_loopg [12, 4] len (fun g vi vt wr => BuildR w wr G len zs g vi vt)
  case atStart => exact ⟨0, none, 0, Nat.zero_le _, by simp, rfl, rfl, fun _ => ⟨rfl, rfl⟩, hm0⟩
  case round =>
    clear hm0
    obtain ⟨k, ao, cap', hk, hgk, rfl, rfl, hz, hm⟩ := hrel
    have Hz : Hid _ := hz
    clear hz
    have Hgk : Hid (gk = len - k) := hgk
    clear hgk
    by_cases hlt : k < len
    · obtain ⟨x, rfl, hc, hv0, hv1⟩ := (hr.grown hm.gr).2 k hlt
      have hsu := tgS_succ zs k (by have := hr.1; omega)
      have hbd := tgS_bound hr k hk
      have Htg : Hid (tgOf zs k = tgS zs k + (zs.getD k 0 + 1)) := hsu
      have Hsu : Hid (tgS zs (k + 1) = tgS zs k + (zs.getD k 0 + 1)) := hsu
      clear hsu
      generalize zs.getD k 0 = v at *
      generalize tgS zs k = t at *
      have g1 := hm.kn.c3
      have g2 := hm.kn.f3
      have g3 : G < wr.heap.size := by have := hm.bs; omega
      have t0 := hbd.1
      have t1 : t ≤ 262144 := by omega
      clear hbd
      go_wp2_with (at_builtin; refine wpList_push31 rfl (.tmp 26) (.tmp 31) rfl w wr G k (tgOf zs) kkOf ao cap' hm (by omega) (t + (v + 1)) k Htg.out rfl rfl rfl rfl ?_; intro k2 cap2 w2 hm2 c7 c8)
      go_roundg (len - (k + 1))
      case measure => rw [Hgk.out]; omega
      case rel => exact ⟨k + 1, _, _, by omega, rfl, by go_num, by rw [Hsu.out], fun h => absurd h (by omega), hm2.out⟩
    · obtain rfl : k = len := by omega
      clear hr
      go_wp2_with fail
      go_ret
      exact ⟨G, ao, cap', rfl, Hz.out, hm⟩
end Go.Proofs.Ybulkbefi
