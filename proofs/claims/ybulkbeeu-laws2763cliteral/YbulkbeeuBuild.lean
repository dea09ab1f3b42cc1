/- zzs2763cbuild. -/
import Derived.Test.YbulkbeeuMake
import Derived.Deep.DeepCutAuto
namespace Go.Proofs.Ybulkbeeu
open Go.RowKit
set_option linter.unusedSimpArgs false
set_option linter.unusedVariables false

def kindSt (v : Int) : St :=
  if v % 6 = 0 then ⟨0, 97, 0⟩ else if v % 6 = 1 then ⟨0, 98, 0⟩ else if v % 6 = 2 then ⟨0, 47, 0⟩ else if v % 6 = 3 then ⟨1, 0, 0⟩ else if v % 6 = 4 then ⟨1, 0, 1⟩ else ⟨2, 0, 1⟩
def clsA : Bs := ⟨0, 8589934592⟩
def clsB : Bs := ⟨140737488355328, 25769803776⟩
def mk (vs : List Int) : Mach := ⟨vs.map kindSt, [clsA, clsB]⟩

def RowAt (w : World) (a : Option Addr) (len : Nat) (zs : List Int) : Prop :=
  len ≤ zs.length ∧ ∀ i, i < len → ∃ x, a = some x ∧ w.cell? (x.add i) = some (.int .u8 (zs.getD i 0)) ∧ 0 ≤ zs.getD i 0 ∧ zs.getD i 0 < 256

def BuildPost (w : World) (M : Mach) (e : Ending) (w' : World) : Prop :=
  ∃ G so co sc cc, e = .returned (.pointer (some ⟨G, 0, none⟩)) ∧ w.grownBy w' none ∧ w.heap.size ≤ G ∧ GlobAt w' w'.heap.size w'.heap.size G M so co sc cc


theorem RowAt.grown {w w' : World} {a : Option Addr} {len : Nat} {zs : List Int} (h : RowAt w a len zs) (hg : w.grownBy w' none) : RowAt w' a len zs :=
  ⟨h.1, fun i hi => by
    obtain ⟨x, e, hc, h2⟩ := h.2 i hi
    exact ⟨x, e, hg.cell hc (by simp), h2⟩⟩

def madeStart (w : World) : World := ((((w.alloc (.cells #[.int .u64 0, .int .u64 8589934592, .int .u64 0, .int .u64 0] 27)).alloc (.cells #[.int .u64 140737488355328, .int .u64 25769803776, .int .u64 0, .int .u64 0] 27)).alloc
  (.cells #[.int .u64 0, .int .u64 8589934592, .int .u64 0, .int .u64 0, .int .u64 140737488355328, .int .u64 25769803776, .int .u64 0, .int .u64 0] 27)).alloc
  (.cells #[.slice none 0 0, .slice none 0 0, .slice (some ⟨w.heap.size + 1 + 1, 0, none⟩) 2 2] 33)).drew.drew.drew.drew

theorem made_start (w : World) : Made w (madeStart w) (madeStart w) (w.heap.size + 1 + 1 + 1) (w.heap.size + 1 + 1 + 1 + 1) (.slice (some ⟨w.heap.size + 1 + 1, 0, none⟩) 2 2) [] none 0 := by
  have hw : madeStart w = aft w ⟨[.cells #[.int .u64 0, .int .u64 8589934592, .int .u64 0, .int .u64 0] 27, .cells #[.int .u64 140737488355328, .int .u64 25769803776, .int .u64 0, .int .u64 0] 27, .cells #[.int .u64 0, .int .u64 8589934592, .int .u64 0, .int .u64 0, .int .u64 140737488355328, .int .u64 25769803776, .int .u64 0, .int .u64 0] 27, .cells #[.slice none 0 0, .slice none 0 0, .slice (some ⟨w.heap.size + 1 + 1, 0, none⟩) 2 2] 33], 4⟩ := rfl
  refine ⟨by omega, by omega, ?_, ?_, ?_, ?_, ⟨rfl, .inl ⟨rfl, rfl⟩⟩, fun _ _ _ => rfl, ?_⟩
  · simp [madeStart, World.drew, go_sem]
  · unfold madeStart; go_simp
  · unfold madeStart; go_simp
  · unfold madeStart; go_simp
  · rw [hw]; exact grown_aft w _ none

theorem made_cls (w : World) : ∀ i, i < 2 → ClAt (madeStart w) (w.heap.size + 1 + 1) i ([clsA, clsB].getD i Bs.none)
  | 0, _ => by unfold ClAt madeStart clsA; simp only [List.getD_cons_zero]; go_simp
  | 1, _ => by unfold ClAt madeStart clsB; simp only [List.getD_cons_zero, List.getD_cons_succ]; go_simp
  | i + 2, h => absurd h (by omega)

theorem Made.glob {w0 w w1 : World} {G base cb : Nat} {l : List St} {cl : List Bs} {co ao : Option Addr} {cap cc : Nat} (h : Made w0 w w1 G base (.slice co cl.length cc) l ao cap)
    (hc : ∀ i, i < cl.length → co = some ⟨cb, 0, none⟩ ∧ cb < base ∧ cb ≠ G ∧ ClAt w1 cb i (cl.getD i Bs.none)) : GlobAt w w.heap.size w.heap.size G ⟨l, cl⟩ ao co cap cc := by
  have a1 := h.g0; have a2 := h.gb; have a3 := h.bs
  refine ⟨by omega, by omega, h.cs, h.c2, fun i hi => ?_, fun i hi => ?_⟩
  · have hi' : i < l.length := hi
    rcases h.own.2 with ⟨_, e2⟩ | ⟨g, c, cur, e2, hb, hg, _⟩
    · omega
    · obtain ⟨rfl, _, rfl⟩ : ao = some ⟨g, 0, none⟩ ∧ True ∧ cap = c := by simpa using e2
      have hlt := lt_of_block hg
      have hc : ∀ j u, (stV (l.getD i St.none))[j]? = some u → j < 4 → w.cell? ⟨g, i * 4 + j, none⟩ = some u := fun j u hu hj => by
        rw [h.own.cellAt (i * 4 + j) (by omega)]
        rw [stVs_get l i j hi' hj]
        exact hu
      exact ⟨g, rfl, hlt, by omega, hc 0 _ rfl (by omega), hc 1 _ rfl (by omega), hc 2 _ rfl (by omega), hc 3 _ rfl (by omega)⟩
  · obtain ⟨e, h1, h2, s0, s1, s2, s3⟩ := hc i hi
    have hk := h.keep cb h1 h2
    exact ⟨cb, e, by omega, by omega, (cell_same hk _).trans s0, (cell_same hk _).trans s1, (cell_same hk _).trans s2, (cell_same hk _).trans s3⟩

def BuildR (w wr w1 : World) (G cb len : Nat) (zs : List Int) (g : Nat) (i : Value) : Prop :=
  ∃ k ao cap, k ≤ len ∧ g = len - k ∧ i = .int .i64 k ∧ Made w wr w1 G (G + 1) (.slice (some ⟨cb, 0, none⟩) 2 2) ((zs.take k).map kindSt) ao cap

theorem take_snoc_kind (zs : List Int) (k : Nat) (h : k < zs.length) : (zs.take (k + 1)).map kindSt = (zs.take k).map kindSt ++ [kindSt (zs.getD k 0)] := by
  rw [List.take_succ_eq_append_getElem h, List.map_append, List.getD_eq_getElem?_getD, List.getElem?_eq_getElem h]
  rfl

set_option maxRecDepth 100000 in
set_option maxHeartbeats 2000000 in
theorem build_any (w : World) (a : Option Addr) (len cap : Nat) (zs : List Int) (hr : RowAt w a len zs) (hl : len ≤ 256) :
    Calls Yba.prog 10 #[.slice a len cap] w (BuildPost w (mk (zs.take len))) := by
  go_enter Yba.func10, Yba.ntmps10
  go_wp2_with fail
  refine Calls.mono (add_97 _ _ 0 8589934592 (by go_simp) (by go_simp) (by decide +kernel)) ?_
  rintro e w1 ⟨rfl, rfl⟩
  go_wp2_with fail
  refine Calls.mono (add_97 _ _ 0 8589934592 (by go_simp) (by go_simp) (by decide +kernel)) ?_
  rintro e w1 ⟨rfl, rfl⟩
  go_wp2_with fail
  refine Calls.mono (add_98 _ _ 8589934592 25769803776 (by go_simp) (by go_simp) (by decide +kernel)) ?_
  rintro e w1 ⟨rfl, rfl⟩
  go_wp2_with fail
  refine Calls.mono (add_47 _ _ 0 140737488355328 (by go_simp) (by go_simp) (by decide +kernel)) ?_
  rintro e w1 ⟨rfl, rfl⟩
  go_wp2_with fail
  have hm0 := made_start w
  have hcl := made_cls w
  have Hcl : Hid _ := hcl
  clear hcl
  change Code.wp _ _ _ _ (madeStart w)
  generalize madeStart w = w1 at *
  obtain ⟨G, hG⟩ : ∃ G, G = w.heap.size + 1 + 1 + 1 := ⟨_, rfl⟩
  rw [← hG] at hm0 ⊢
  obtain ⟨cb, hcb⟩ : ∃ cb, cb = w.heap.size + 1 + 1 := ⟨_, rfl⟩
  rw [← hcb] at hm0 Hcl
  have HG : Hid (G = w.heap.size + 1 + 1 + 1) := hG
  have Hcb : Hid (cb = w.heap.size + 1 + 1) := hcb
  clear hG hcb
  go_loopg [19] len (fun g i wr => BuildR w wr w1 G cb len zs g i)
  case atStart => exact ⟨0, none, 0, Nat.zero_le _, by simp, rfl, by simpa using hm0⟩
  case round =>
    clear hm0
    obtain ⟨k, ao, cap', hk, hgk, rfl, hm⟩ := hrel
    have Hgk : Hid (gk = len - k) := hgk
    clear hgk
    by_cases hlt : k < len
    · obtain ⟨x, rfl, hc, hv0, hv1⟩ := (hr.grown hm.gr).2 k hlt
      have Hsn : Hid _ := take_snoc_kind zs k (by have := hr.1; omega)
      obtain ⟨v, hv⟩ : ∃ v, zs.getD k 0 = v := ⟨_, rfl⟩
      rw [hv] at hc hv0 hv1
      have Hv : Hid (zs.getD k 0 = v) := hv
      clear hv
      obtain ⟨l, hll⟩ : ∃ l, (zs.take k).map kindSt = l := ⟨_, rfl⟩
      have hlk : l.length ≤ 256 := by rw [← hll]; simp; omega
      rw [hll] at hm
      have Hl : Hid ((zs.take k).map kindSt = l) := hll
      clear hll
      have g1 := hm.cs
      have g2 := hm.cf
      have g3 : G < wr.heap.size := by have := hm.gb; have := hm.bs; omega
      have g4 : (x.add k).block < wr.heap.size := World.block_lt_of_cell? _ _ hc
      have hr6 : v % 6 = 0 ∨ v % 6 = 1 ∨ v % 6 = 2 ∨ v % 6 = 3 ∨ v % 6 = 4 ∨ v % 6 = 5 := by omega
      rcases hr6 with h6 | h6 | h6 | h6 | h6 | h6
      · have Hk : Hid (kindSt v = ⟨0, 97, 0⟩) := by show kindSt v = ⟨0, 97, 0⟩; simp [kindSt, h6]
        have h6' : v.tmod 6 = 0 := by rw [Int.tmod_eq_emod_of_nonneg hv0]; exact h6
        clear h6
        go_wp2_with (at_builtin; refine wpList_push36 rfl (.tmp 41) (.tmp 43) rfl w wr w1 G (G + 1) _ l ao cap' hm (by omega) ⟨0, 97, 0⟩ rfl rfl rfl ?_; intro k2 cap2 w2 hm2 c7 c8)
        go_roundg (len - (k + 1))
        case measure => rw [Hgk.out]; omega
        case rel => exact ⟨k + 1, _, _, by omega, rfl, by go_num, by rw [Hsn.out, Hl.out, Hv.out, Hk.out]; exact hm2.out⟩
      · have Hk : Hid (kindSt v = ⟨0, 98, 0⟩) := by show kindSt v = ⟨0, 98, 0⟩; simp [kindSt, h6]
        have h6' : v.tmod 6 = 1 := by rw [Int.tmod_eq_emod_of_nonneg hv0]; exact h6
        clear h6
        go_wp2_with (at_builtin; refine wpList_push36 rfl (.tmp 53) (.tmp 55) rfl w wr w1 G (G + 1) _ l ao cap' hm (by omega) ⟨0, 98, 0⟩ rfl rfl rfl ?_; intro k2 cap2 w2 hm2 c7 c8)
        go_roundg (len - (k + 1))
        case measure => rw [Hgk.out]; omega
        case rel => exact ⟨k + 1, _, _, by omega, rfl, by go_num, by rw [Hsn.out, Hl.out, Hv.out, Hk.out]; exact hm2.out⟩
      · have Hk : Hid (kindSt v = ⟨0, 47, 0⟩) := by show kindSt v = ⟨0, 47, 0⟩; simp [kindSt, h6]
        have h6' : v.tmod 6 = 2 := by rw [Int.tmod_eq_emod_of_nonneg hv0]; exact h6
        clear h6
        go_wp2_with (at_builtin; refine wpList_push36 rfl (.tmp 65) (.tmp 67) rfl w wr w1 G (G + 1) _ l ao cap' hm (by omega) ⟨0, 47, 0⟩ rfl rfl rfl ?_; intro k2 cap2 w2 hm2 c7 c8)
        go_roundg (len - (k + 1))
        case measure => rw [Hgk.out]; omega
        case rel => exact ⟨k + 1, _, _, by omega, rfl, by go_num, by rw [Hsn.out, Hl.out, Hv.out, Hk.out]; exact hm2.out⟩
      · have Hk : Hid (kindSt v = ⟨1, 0, 0⟩) := by show kindSt v = ⟨1, 0, 0⟩; simp [kindSt, h6]
        have h6' : v.tmod 6 = 3 := by rw [Int.tmod_eq_emod_of_nonneg hv0]; exact h6
        clear h6
        go_wp2_with (at_builtin; refine wpList_push36 rfl (.tmp 77) (.tmp 79) rfl w wr w1 G (G + 1) _ l ao cap' hm (by omega) ⟨1, 0, 0⟩ rfl rfl rfl ?_; intro k2 cap2 w2 hm2 c7 c8)
        go_roundg (len - (k + 1))
        case measure => rw [Hgk.out]; omega
        case rel => exact ⟨k + 1, _, _, by omega, rfl, by go_num, by rw [Hsn.out, Hl.out, Hv.out, Hk.out]; exact hm2.out⟩
      · have Hk : Hid (kindSt v = ⟨1, 0, 1⟩) := by show kindSt v = ⟨1, 0, 1⟩; simp [kindSt, h6]
        have h6' : v.tmod 6 = 4 := by rw [Int.tmod_eq_emod_of_nonneg hv0]; exact h6
        clear h6
        go_wp2_with (at_builtin; refine wpList_push36 rfl (.tmp 89) (.tmp 91) rfl w wr w1 G (G + 1) _ l ao cap' hm (by omega) ⟨1, 0, 1⟩ rfl rfl rfl ?_; intro k2 cap2 w2 hm2 c7 c8)
        go_roundg (len - (k + 1))
        case measure => rw [Hgk.out]; omega
        case rel => exact ⟨k + 1, _, _, by omega, rfl, by go_num, by rw [Hsn.out, Hl.out, Hv.out, Hk.out]; exact hm2.out⟩
      · have Hk : Hid (kindSt v = ⟨2, 0, 1⟩) := by show kindSt v = ⟨2, 0, 1⟩; simp [kindSt, h6]
        have h6' : v.tmod 6 = 5 := by rw [Int.tmod_eq_emod_of_nonneg hv0]; exact h6
        clear h6
        go_wp2_with (at_builtin; refine wpList_push36 rfl (.tmp 29) (.tmp 31) rfl w wr w1 G (G + 1) _ l ao cap' hm (by omega) ⟨2, 0, 1⟩ rfl rfl rfl ?_; intro k2 cap2 w2 hm2 c7 c8)
        go_roundg (len - (k + 1))
        case measure => rw [Hgk.out]; omega
        case rel => exact ⟨k + 1, _, _, by omega, rfl, by go_num, by rw [Hsn.out, Hl.out, Hv.out, Hk.out]; exact hm2.out⟩
    · obtain rfl : k = len := by omega
      have hb : ∀ i, i < [clsA, clsB].length → some (⟨cb, 0, none⟩ : Addr) = some ⟨cb, 0, none⟩ ∧ cb < G + 1 ∧ cb ≠ G ∧ ClAt w1 cb i ([clsA, clsB].getD i Bs.none) := fun i hi => ⟨rfl, by have := HG.out; have := Hcb.out; omega, by have := HG.out; have := Hcb.out; omega, Hcl.out i hi⟩
      have hGl := Made.glob (cl := [clsA, clsB]) hm hb
      have Hgl : Hid _ := hGl
      clear hGl hb
      go_wp2_with fail
      go_ret
      exact ⟨G, _, _, _, _, rfl, hm.gr, hm.g0, Hgl.out⟩
end Go.Proofs.Ybulkbeeu
