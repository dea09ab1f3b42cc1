/- zzs2763clit, strings.HasPrefix. -/
import Derived.Test.YbulkbeeuBuild
import Derived.Test.YbulkbeeuLit
import Derived.Laws.IdiomStrings
namespace Go.Proofs.Ybulkbeeu
open Go.RowKit
set_option linter.unusedSimpArgs false
set_option linter.unusedVariables false

theorem Yba.i5 : (Yba.prog.info? 5).map (fun i => (i.zero, i.size, i.bytes)) = some (some (.int .u8 0), 1, 1) := by kernel_rfl

def litB (b : UInt8) : Nat := 97 + b.toNat % 3

structure LitA (w wr : World) (s : ByteArray) (k : Nat) : Prop where
  gr : w.grownBy wr none
  sz : w.heap.size < wr.heap.size
  fr : ∀ j, j < s.size → (wr.cell? ⟨w.heap.size, j, none⟩).isSome = true ∧ wr.frozen? ⟨w.heap.size, j, none⟩ = false
  cl : ∀ j (h : j < s.size), j < k → wr.cell? ⟨w.heap.size, j, none⟩ = some (.int .u8 (litB s[j]))

def LitR (w wr : World) (s : ByteArray) (g : Nat) (i : Value) : Prop :=
  ∃ k : Nat, k ≤ s.size ∧ g = s.size - k ∧ i = .int .i64 k ∧ LitA w wr s k

theorem LitA.start (w : World) (s : ByteArray) : LitA w (w.alloc (.cells (madeCells #[.int .u8 0] s.size) 5)) s 0 := by
  refine ⟨grown_aft w ⟨[.cells (madeCells #[.int .u8 0] s.size) 5], 0⟩ none, by simp [go_sem], fun j hj => ?_, fun j _ h => absurd h (Nat.not_lt_zero _)⟩
  have hsz : (madeCells #[Value.int .u8 0] s.size).size = s.size := by simp [madeCells]
  constructor
  · simp [go_sem, hsz, hj]
  · simp [go_sem, hsz, hj]

theorem LitA.step {w wr : World} {s : ByteArray} {k : Nat} (h : LitA w wr s k) (hk : k < s.size) (v : Int) (hv : v = (litB s[k] : Int)) : LitA w (wr.setCell ⟨w.heap.size, k, none⟩ (.int .u8 v)) s (k + 1) := by
  have hs := (grown_setCell wr ⟨w.heap.size, k, none⟩ (.int .u8 v)).size
  have h0 := h.sz
  refine ⟨grown_of_above h.gr (grown_setCell wr ⟨w.heap.size, k, none⟩ _) (fun j hj => by simp at hj; omega), by omega, fun j hj => ?_, fun j hj hjk => ?_⟩
  · refine ⟨?_, ?_⟩
    · by_cases e : j = k
      · subst e
        rw [World.cell?_setCell_same' _ _ _ (h.fr j hj).1]
        rfl
      · have ho : (wr.setCell ⟨w.heap.size, k, none⟩ (.int .u8 v)).cell? ⟨w.heap.size, j, none⟩ = wr.cell? ⟨w.heap.size, j, none⟩ := by
          apply World.cell?_setCell_other
          simp [Ne.symm e]
        rw [ho]
        exact (h.fr j hj).1
    · rw [World.frozen?_setCell]
      exact (h.fr j hj).2
  · by_cases e : j = k
    · subst e
      rw [World.cell?_setCell_same' _ _ _ (h.fr j hj).1, hv]
    · have ho : (wr.setCell ⟨w.heap.size, k, none⟩ (.int .u8 v)).cell? ⟨w.heap.size, j, none⟩ = wr.cell? ⟨w.heap.size, j, none⟩ := by
        apply World.cell?_setCell_other
        simp [Ne.symm e]
      rw [ho]
      exact h.cl j hj (by omega)

set_option maxRecDepth 100000 in
set_option maxHeartbeats 2000000 in
theorem clit_any (w : World) (s : ByteArray) (hs : s.size ≤ 256) :
    Calls Yba.prog 5 #[.string s] w fun e w' => ∃ t : ByteArray, e = .returned (.string t) ∧ t.data.toList.map UInt8.toNat = s.data.toList.map litB ∧ w.grownBy w' none := by
  have hmk := fun w => run_make_row' (P := Yba.prog) 41 5 (.int .u8 0) 1 Yba.underlying41 Yba.i5 rfl .i64 .i64 s.size (by omega) (by omega) w
  have h0 := LitA.start w s
  have H0 : Hid _ := h0
  clear h0
  go_enter Yba.func5, Yba.ntmps5
  go_wp2_with fail
  go_loopg [4] s.size (fun g i wr => LitR w wr s g i)
  case atStart => exact ⟨0, Nat.zero_le _, by simp, rfl, H0.out⟩
  case round =>
    clear H0 hmk
    obtain ⟨k, hk, hgk, rfl, hA⟩ := hrel
    have Hgk : Hid (gk = s.size - k) := hgk
    clear hgk
    by_cases hlt : k < s.size
    · have f1 := (hA.fr k hlt).2
      obtain ⟨u, f2⟩ := Option.isSome_iff_exists.1 (hA.fr k hlt).1
      have f3 := hA.sz
      have i1 : (k : Int) < (s.size : Int) := by omega
      have i2 : 0 ≤ (k : Int) ∧ (k : Int) < (s.size : Int) := by omega
      have hst := fun v (hv : v = (litB s[k] : Int)) => hA.step hlt v hv
      obtain ⟨b, hb⟩ : ∃ b, s[k] = b := ⟨_, rfl⟩
      rw [hb] at hst
      have Hst : Hid _ := hst
      clear hst hA
      have hbl := b.toNat_lt
      have w64 : wrap64 (b.toNat : Int) = (b.toNat : Int) := by unfold wrap64; omega
      have h3 : b.toNat % 3 = 0 ∨ b.toNat % 3 = 1 ∨ b.toNat % 3 = 2 := by omega
      rcases h3 with h3 | h3 | h3
      · have t3 : (b.toNat : Int).tmod 3 = 0 := by rw [Int.tmod_eq_emod_of_nonneg (by omega)]; omega
        have Hl : Hid ((97 : Int) = (litB b : Int)) := by show (97 : Int) = _; unfold litB; omega
        clear h3
        go_wp2_with fail
        go_roundg (s.size - (k + 1))
        case measure => rw [Hgk.out]; omega
        case rel => exact ⟨k + 1, by omega, rfl, by go_num, Hst.out _ Hl.out⟩
      · have t3 : (b.toNat : Int).tmod 3 = 1 := by rw [Int.tmod_eq_emod_of_nonneg (by omega)]; omega
        have Hl : Hid ((98 : Int) = (litB b : Int)) := by show (98 : Int) = _; unfold litB; omega
        clear h3
        go_wp2_with fail
        go_roundg (s.size - (k + 1))
        case measure => rw [Hgk.out]; omega
        case rel => exact ⟨k + 1, by omega, rfl, by go_num, Hst.out _ Hl.out⟩
      · have t3 : (b.toNat : Int).tmod 3 = 2 := by rw [Int.tmod_eq_emod_of_nonneg (by omega)]; omega
        have Hl : Hid ((99 : Int) = (litB b : Int)) := by show (99 : Int) = _; unfold litB; omega
        clear h3
        go_wp2_with fail
        go_roundg (s.size - (k + 1))
        case measure => rw [Hgk.out]; omega
        case rel => exact ⟨k + 1, by omega, rfl, by go_num, Hst.out _ Hl.out⟩
    · obtain rfl : k = s.size := by omega
      obtain ⟨l, hl⟩ : ∃ l : List UInt8, l = s.data.toList.map (fun b => UInt8.ofNat (litB b)) := ⟨_, rfl⟩
      have hll : l.length = s.size := by rw [hl, List.length_map]; rfl
      have hcv := run_convert_bytes_back (P := Yba.prog) wr 41 9 5 ⟨w.heap.size, 0, none⟩ s.size l Yba.underlying41 Yba.underlying5 Yba.underlying9 (fun j hj => by
        have hj' : j < s.size := by omega
        have := hA.cl j hj' hj'
        have ha : (⟨w.heap.size, 0, none⟩ : Addr).add j = ⟨w.heap.size, j, none⟩ := by
          unfold Addr.add
          split
          · rename_i h; subst h; rfl
          · simp
        rw [ha, this]
        congr 2
        have e : l[j] = UInt8.ofNat (litB s[j]) := by subst hl; simp [ByteArray.getElem_eq_getElem_data]
        rw [e]
        have hb : litB s[j] < 256 := by unfold litB; omega
        simp
        omega)
      rw [hll] at hcv
      have hmap : l.map UInt8.toNat = s.data.toList.map litB := by
        rw [hl, List.map_map]
        apply List.map_congr_left
        intro b _
        have hb : litB b < 256 := by unfold litB; omega
        simp
        omega
      have Hmap : Hid _ := hmap
      clear hmap hl hll
      have hgr := hA.gr
      have Hgr : Hid _ := hgr
      clear hgr hA
      go_wp2_with fail
      go_ret
      exact ⟨_, rfl, Hmap.out, Hgr.out⟩

theorem ba_take (s : ByteArray) (n : Nat) : (s.extract 0 n).toList = s.data.toList.take n := by
  rw [ByteArray.toList_eq, ByteArray.data_extract]
  simp

theorem sl_prefix (w : World) (s p : ByteArray) :
    Calls Yba.prog 20 #[.string s, .string p] w fun e w' => e = .returned (.bool (decide (p.size ≤ s.size ∧ p.data.toList = s.data.toList.take p.size))) ∧ w' = w := by
  by_cases h : p.size ≤ s.size
  · have he : ((s.extract 0 p.size).toList == p.toList) = decide (p.size ≤ s.size ∧ p.data.toList = s.data.toList.take p.size) := by
      rw [ba_take, ByteArray.toList_eq]
      by_cases e : p.data.toList = s.data.toList.take p.size
      · simp [h, ← e]
      · simp [h, e, Ne.symm e]
    have He : Hid _ := he
    clear he
    go_enter Yba.func20, Yba.ntmps20
    go_wp2_with fail
    go_ret
    exact ⟨congrArg (fun b => Ending.returned (.bool b)) He.out, rfl⟩
  · have he : decide (p.size ≤ s.size ∧ p.data.toList = s.data.toList.take p.size) = false := by simp [h]
    have He : Hid _ := he
    clear he
    go_enter Yba.func20, Yba.ntmps20
    go_wp2_with fail
    go_ret
    exact ⟨congrArg (fun b => Ending.returned (.bool b)) He.out.symm, rfl⟩

theorem prefix_any (w : World) (s p : ByteArray) :
    Calls Yba.prog 9 #[.string s, .string p] w fun e w' => e = .returned (.bool (decide (p.size ≤ s.size ∧ p.data.toList = s.data.toList.take p.size))) ∧ w' = w := by
  have h := sl_prefix w s p
  generalize decide (p.size ≤ s.size ∧ p.data.toList = s.data.toList.take p.size) = b at *
  have Hh : Hid _ := h
  clear h
  go_enter Yba.func9, Yba.ntmps9
  go_wp2_with fail
  refine Calls.mono Hh.out ?_
  rintro e w' ⟨rfl, rfl⟩
  go_wp2_with fail
  go_ret
  exact ⟨rfl, rfl⟩
end Go.Proofs.Ybulkbeeu
