/- A machine in memory; takes, taken, passes. -/
import Derived.Test.YbulkbeeuLeaf
import Derived.Deep.AppendLies
namespace Go.Proofs.Ybulkbeeu
open Go.RowKit
set_option linter.unusedSimpArgs false
set_option linter.unusedVariables false

def StAt (w : World) (b i : Nat) (s : St) : Prop := w.cell? ⟨b, i * 4, none⟩ = some (.int .u8 s.op) ∧ w.cell? ⟨b, i * 4 + 1, none⟩ = some (.int .u8 s.b) ∧ w.cell? ⟨b, i * 4 + 2, none⟩ = some (.int .i64 s.arg) ∧ w.cell? ⟨b, i * 4 + 3, none⟩ = some (.int .i64 0)
def ClAt (w : World) (b i : Nat) (s : Bs) : Prop := w.cell? ⟨b, i * 4, none⟩ = some (.int .u64 s.w0) ∧ w.cell? ⟨b, i * 4 + 1, none⟩ = some (.int .u64 s.w1) ∧ w.cell? ⟨b, i * 4 + 2, none⟩ = some (.int .u64 0) ∧ w.cell? ⟨b, i * 4 + 3, none⟩ = some (.int .u64 0)

/-- The machine M lies at block g; all its blocks lie below B, and none is bb. -/
structure GlobAt (w : World) (B bb g : Nat) (M : Mach) (so co : Option Addr) (sc cc : Nat) : Prop where
  gB : g < B
  gb : g ≠ bb
  cs : w.cell? ⟨g, 0, none⟩ = some (.slice so M.n sc)
  cc : w.cell? ⟨g, 2, none⟩ = some (.slice co M.classes.length cc)
  st : ∀ i, i < M.n → ∃ b, so = some ⟨b, 0, none⟩ ∧ b < B ∧ b ≠ bb ∧ StAt w b i (M.at i)
  cl : ∀ i, i < M.classes.length → ∃ b, co = some ⟨b, 0, none⟩ ∧ b < B ∧ b ≠ bb ∧ ClAt w b i (M.cls i)

theorem GlobAt.keep {w w' : World} {B bb g : Nat} {M : Mach} {so co : Option Addr} {sc cc : Nat} (h : GlobAt w B bb g M so co sc cc)
    (hk : ∀ k, k < B → k ≠ bb → w'.heap[k]? = w.heap[k]?) : GlobAt w' B bb g M so co sc cc := by
  have hc : ∀ k o, k < B → k ≠ bb → w'.cell? ⟨k, o, none⟩ = w.cell? ⟨k, o, none⟩ := fun k o h1 h2 => World.cell?_of_block (a := ⟨k, o, none⟩) (hk k h1 h2)
  refine ⟨h.gB, h.gb, (hc g 0 h.gB h.gb).trans h.cs, (hc g 2 h.gB h.gb).trans h.cc, fun i hi => ?_, fun i hi => ?_⟩
  · obtain ⟨b, e, h1, h2, s0, s1, s2, s3⟩ := h.st i hi
    exact ⟨b, e, h1, h2, (hc b _ h1 h2).trans s0, (hc b _ h1 h2).trans s1, (hc b _ h1 h2).trans s2, (hc b _ h1 h2).trans s3⟩
  · obtain ⟨b, e, h1, h2, s0, s1, s2, s3⟩ := h.cl i hi
    exact ⟨b, e, h1, h2, (hc b _ h1 h2).trans s0, (hc b _ h1 h2).trans s1, (hc b _ h1 h2).trans s2, (hc b _ h1 h2).trans s3⟩

theorem GlobAt.aft {w : World} {B bb g : Nat} {M : Mach} {so co : Option Addr} {sc cc : Nat} (h : GlobAt w B bb g M so co sc cc) (hB : B ≤ w.heap.size) (x : Aft) : GlobAt (aft w x) B bb g M so co sc cc :=
  h.keep fun k hk _ => (aft_below w x).block k (by omega)

def setV (s : Bs) : Value := .agg #[.int .u64 s.w0, .int .u64 s.w1, .int .u64 0, .int .u64 0]

set_option maxHeartbeats 400000 in
theorem takes_47 (w : World) (B bb g : Nat) (M : Mach) (so co : Option Addr) (sc cc : Nat) (hg : GlobAt w B bb g M so co sc cc) (hB : B ≤ w.heap.size) (hok : M.Ok) (i : Nat) (hi : i < M.n) (h0 : (M.at i).op = 0) (hb : (M.at i).b = 47) :
    Calls Yba.prog 17 #[.pointer (some ⟨g, 0, none⟩), .int .i64 i] w fun e w' => e = .returned (setV ⟨140737488355328, 0⟩) ∧ ∃ x, w' = aft w x := by
  obtain ⟨b, rfl, hbB, _, s0, s1, s2, s3⟩ := hg.st i hi
  rw [h0] at s0
  rw [hb] at s1
  have gc := hg.cs
  have n1 := hok.n256
  have hgl : g < w.heap.size := by have := hg.gB; omega
  have hbl : b < w.heap.size := by omega
  clear hg hok
  generalize M.n = n at *
  generalize (M.at i).arg = arg at *
  have z1 : bits .or .u64 0 140737488355328 = 140737488355328 := by decide +kernel
  go_enter Yba.func17, Yba.ntmps17
  go_wp2_with fail
  refine (add_47 (w.heap.size + 1 + 1) _ 0 140737488355328 ?_ ?_ z1).mono ?_
  · go_simp
  · go_simp
  rintro e w' ⟨rfl, rfl⟩
  go_wp2_with fail
  exact bodyPost_ret (v := setV ⟨140737488355328, 0⟩) (by simp [results, Yba.results17, go_sem, setV]) rfl ⟨rfl, ⟨[_, _, _], 1⟩, rfl⟩

set_option maxHeartbeats 400000 in
theorem takes_97 (w : World) (B bb g : Nat) (M : Mach) (so co : Option Addr) (sc cc : Nat) (hg : GlobAt w B bb g M so co sc cc) (hB : B ≤ w.heap.size) (hok : M.Ok) (i : Nat) (hi : i < M.n) (h0 : (M.at i).op = 0) (hb : (M.at i).b = 97) :
    Calls Yba.prog 17 #[.pointer (some ⟨g, 0, none⟩), .int .i64 i] w fun e w' => e = .returned (setV ⟨0, 8589934592⟩) ∧ ∃ x, w' = aft w x := by
  obtain ⟨b, rfl, hbB, _, s0, s1, s2, s3⟩ := hg.st i hi
  rw [h0] at s0
  rw [hb] at s1
  have gc := hg.cs
  have n1 := hok.n256
  have hgl : g < w.heap.size := by have := hg.gB; omega
  have hbl : b < w.heap.size := by omega
  clear hg hok
  generalize M.n = n at *
  generalize (M.at i).arg = arg at *
  have z1 : bits .or .u64 0 8589934592 = 8589934592 := by decide +kernel
  go_enter Yba.func17, Yba.ntmps17
  go_wp2_with fail
  refine (add_97 (w.heap.size + 1 + 1) _ 0 8589934592 ?_ ?_ z1).mono ?_
  · go_simp
  · go_simp
  rintro e w' ⟨rfl, rfl⟩
  go_wp2_with fail
  exact bodyPost_ret (v := setV ⟨0, 8589934592⟩) (by simp [results, Yba.results17, go_sem, setV]) rfl ⟨rfl, ⟨[_, _, _], 1⟩, rfl⟩

set_option maxHeartbeats 400000 in
theorem takes_98 (w : World) (B bb g : Nat) (M : Mach) (so co : Option Addr) (sc cc : Nat) (hg : GlobAt w B bb g M so co sc cc) (hB : B ≤ w.heap.size) (hok : M.Ok) (i : Nat) (hi : i < M.n) (h0 : (M.at i).op = 0) (hb : (M.at i).b = 98) :
    Calls Yba.prog 17 #[.pointer (some ⟨g, 0, none⟩), .int .i64 i] w fun e w' => e = .returned (setV ⟨0, 17179869184⟩) ∧ ∃ x, w' = aft w x := by
  obtain ⟨b, rfl, hbB, _, s0, s1, s2, s3⟩ := hg.st i hi
  rw [h0] at s0
  rw [hb] at s1
  have gc := hg.cs
  have n1 := hok.n256
  have hgl : g < w.heap.size := by have := hg.gB; omega
  have hbl : b < w.heap.size := by omega
  clear hg hok
  generalize M.n = n at *
  generalize (M.at i).arg = arg at *
  have z1 : bits .or .u64 0 17179869184 = 17179869184 := by decide +kernel
  go_enter Yba.func17, Yba.ntmps17
  go_wp2_with fail
  refine (add_98 (w.heap.size + 1 + 1) _ 0 17179869184 ?_ ?_ z1).mono ?_
  · go_simp
  · go_simp
  rintro e w' ⟨rfl, rfl⟩
  go_wp2_with fail
  exact bodyPost_ret (v := setV ⟨0, 17179869184⟩) (by simp [results, Yba.results17, go_sem, setV]) rfl ⟨rfl, ⟨[_, _, _], 1⟩, rfl⟩

set_option maxHeartbeats 400000 in
theorem takes_99 (w : World) (B bb g : Nat) (M : Mach) (so co : Option Addr) (sc cc : Nat) (hg : GlobAt w B bb g M so co sc cc) (hB : B ≤ w.heap.size) (hok : M.Ok) (i : Nat) (hi : i < M.n) (h0 : (M.at i).op = 0) (hb : (M.at i).b = 99) :
    Calls Yba.prog 17 #[.pointer (some ⟨g, 0, none⟩), .int .i64 i] w fun e w' => e = .returned (setV ⟨0, 34359738368⟩) ∧ ∃ x, w' = aft w x := by
  obtain ⟨b, rfl, hbB, _, s0, s1, s2, s3⟩ := hg.st i hi
  rw [h0] at s0
  rw [hb] at s1
  have gc := hg.cs
  have n1 := hok.n256
  have hgl : g < w.heap.size := by have := hg.gB; omega
  have hbl : b < w.heap.size := by omega
  clear hg hok
  generalize M.n = n at *
  generalize (M.at i).arg = arg at *
  have z1 : bits .or .u64 0 34359738368 = 34359738368 := by decide +kernel
  go_enter Yba.func17, Yba.ntmps17
  go_wp2_with fail
  refine (add_99 (w.heap.size + 1 + 1) _ 0 34359738368 ?_ ?_ z1).mono ?_
  · go_simp
  · go_simp
  rintro e w' ⟨rfl, rfl⟩
  go_wp2_with fail
  exact bodyPost_ret (v := setV ⟨0, 34359738368⟩) (by simp [results, Yba.results17, go_sem, setV]) rfl ⟨rfl, ⟨[_, _, _], 1⟩, rfl⟩

set_option maxHeartbeats 400000 in
theorem takes_cls (w : World) (B bb g : Nat) (M : Mach) (so co : Option Addr) (sc cc : Nat) (hg : GlobAt w B bb g M so co sc cc) (hB : B ≤ w.heap.size) (hok : M.Ok) (i : Nat) (hi : i < M.n) (h0 : (M.at i).op ≠ 0) :
    Calls Yba.prog 17 #[.pointer (some ⟨g, 0, none⟩), .int .i64 i] w fun e w' => e = .returned (setV (M.cls (M.at i).arg)) ∧ ∃ x, w' = aft w x := by
  obtain ⟨b, rfl, hbB, _, s0, s1, s2, s3⟩ := hg.st i hi
  have ha := hok.arg i hi h0
  obtain ⟨c, rfl, hcB, _, c0, c1, c2, c3⟩ := hg.cl _ ha
  have gc := hg.cs
  have gd := hg.cc
  have n1 := hok.n256
  have hgl : g < w.heap.size := by have := hg.gB; omega
  have hbl : b < w.heap.size := by omega
  have hcl : c < w.heap.size := by omega
  have h0' : (((M.at i).op : Int) == 0) = false := beq_eq_false_iff_ne.2 (by omega)
  have hsz : M.classes.length ≤ M.classes.length := Nat.le_refl _
  clear hg hok hsz
  generalize M.n = n at *
  generalize (M.at i).arg = arg at *
  generalize ((M.at i).op : Int) = op at *
  generalize ((M.at i).b : Int) = bt at *
  generalize M.cls arg = cl at *
  generalize M.classes.length = L at *
  go_enter Yba.func17, Yba.ntmps17
  go_wp2_with fail
  go_region
  all_goals
    go_wp2_with fail
    exact bodyPost_ret (v := setV cl) (by simp [results, Yba.results17, go_sem, setV]) rfl ⟨rfl, ⟨[_, _], 1⟩, rfl⟩

theorem takes_any (w : World) (B bb g : Nat) (M : Mach) (so co : Option Addr) (sc cc : Nat) (hg : GlobAt w B bb g M so co sc cc) (hB : B ≤ w.heap.size) (hok : M.Ok) (i : Nat) (hi : i < M.n) :
    Calls Yba.prog 17 #[.pointer (some ⟨g, 0, none⟩), .int .i64 i] w fun e w' => e = .returned (setV (M.set i)) ∧ ∃ x, w' = aft w x := by
  by_cases h0 : (M.at i).op = 0
  · have e : M.set i = bset (M.at i).b := by unfold Mach.set; rw [if_pos h0]
    rw [e]
    rcases hok.by_ i hi h0 with hb | hb | hb | hb
    · rw [hb]; exact takes_47 w B bb g M so co sc cc hg hB hok i hi h0 hb
    · rw [hb]; exact takes_97 w B bb g M so co sc cc hg hB hok i hi h0 hb
    · rw [hb]; exact takes_98 w B bb g M so co sc cc hg hB hok i hi h0 hb
    · rw [hb]; exact takes_99 w B bb g M so co sc cc hg hB hok i hi h0 hb
  · have e : M.set i = M.cls (M.at i).arg := by unfold Mach.set; rw [if_neg h0]
    rw [e]
    exact takes_cls w B bb g M so co sc cc hg hB hok i hi h0

theorem fl_even (i : Nat) : fl (2 * i) = false := by simp [fl]
theorem fl_odd (i : Nat) : fl (2 * i + 1) = true := by simp [fl]
theorem entV_even (i : Nat) : entV (2 * i) = .agg #[.int .i64 i, .bool false] := by
  unfold entV; rw [fl_even, show ((2 * i : Nat) : Int) / 2 = (i : Int) from by omega]
theorem entV_odd (i : Nat) : entV (2 * i + 1) = .agg #[.int .i64 i, .bool true] := by
  unfold entV; rw [fl_odd, show ((2 * i + 1 : Nat) : Int) / 2 = (i : Int) from by omega]

set_option maxHeartbeats 400000 in
theorem taken_any (w : World) (B bb g : Nat) (M : Mach) (so co : Option Addr) (sc cc : Nat) (hg : GlobAt w B bb g M so co sc cc) (hB : B ≤ w.heap.size) (hok : M.Ok) (i : Nat) (hi : i < M.n) :
    Calls Yba.prog 19 #[.pointer (some ⟨g, 0, none⟩), .int .i64 i] w fun e w' => e = .returned (entV (M.taken i)) ∧ ∃ x, w' = aft w x := by
  obtain ⟨b, rfl, hbB, _, s0, s1, s2, s3⟩ := hg.st i hi
  have gc := hg.cs
  have n1 := hok.n256
  have hgl : g < w.heap.size := by have := hg.gB; omega
  have hbl : b < w.heap.size := by omega
  have ho := hok.op i hi
  by_cases h2 : (M.at i).op = 2
  · have Ht : Hid (M.taken i = 2 * i) := by show _ = _; unfold Mach.taken; rw [if_pos h2]
    have He := entV_even i
    rw [h2] at s0
    clear hg hok ho h2
    generalize M.n = n at *
    generalize (M.at i).arg = arg at *
    generalize ((M.at i).b : Int) = bt at *
    have HE : Hid _ := He
    clear He
    go_enter Yba.func19, Yba.ntmps19
    go_wp2_with fail
    rw [Ht.out]
    exact bodyPost_ret (v := entV (2 * i)) (by rw [HE.out]; simp [results, Yba.results19, go_sem]) rfl ⟨rfl, ⟨[_, _], 0⟩, rfl⟩
  · by_cases h0 : (M.at i).op = 0
    · rw [h0] at s0
      by_cases hb : (M.at i).b = 47
      · have Ht : Hid (M.taken i = 2 * (i + 1) + 1) := by show _ = _; unfold Mach.taken; rw [if_neg h2, if_pos h0, if_pos hb]
        have He := entV_odd (i + 1)
        rw [hb] at s1
        clear hg hok ho h2 h0 hb
        generalize M.n = n at *
        generalize (M.at i).arg = arg at *
        have HE : Hid _ := He
        clear He
        go_enter Yba.func19, Yba.ntmps19
        go_wp2_with fail
        rw [Ht.out]
        exact bodyPost_ret (v := entV (2 * (i + 1) + 1)) (by rw [HE.out]; simp [results, Yba.results19, go_sem]) rfl ⟨rfl, ⟨[_, _], 0⟩, rfl⟩
      · have Ht : Hid (M.taken i = 2 * (i + 1)) := by show _ = _; unfold Mach.taken; rw [if_neg h2, if_pos h0, if_neg hb]
        have He := entV_even (i + 1)
        have hb' : (((M.at i).b : Int) == 47) = false := beq_eq_false_iff_ne.2 (by omega)
        clear hg hok ho h2 h0 hb
        generalize M.n = n at *
        generalize (M.at i).arg = arg at *
        generalize ((M.at i).b : Int) = bt at *
        have HE : Hid _ := He
        clear He
        go_enter Yba.func19, Yba.ntmps19
        go_wp2_with fail
        rw [Ht.out]
        exact bodyPost_ret (v := entV (2 * (i + 1))) (by rw [HE.out]; simp [results, Yba.results19, go_sem]) rfl ⟨rfl, ⟨[_, _], 0⟩, rfl⟩
    · have h1 : (M.at i).op = 1 := by omega
      have Ht : Hid (M.taken i = 2 * (i + 1)) := by show _ = _; unfold Mach.taken; rw [if_neg h2, if_neg h0]
      have He := entV_even (i + 1)
      rw [h1] at s0
      clear hg hok ho h2 h0 h1
      generalize M.n = n at *
      generalize (M.at i).arg = arg at *
      generalize ((M.at i).b : Int) = bt at *
      have HE : Hid _ := He
      clear He
      go_enter Yba.func19, Yba.ntmps19
      go_wp2_with fail
      rw [Ht.out]
      exact bodyPost_ret (v := entV (2 * (i + 1))) (by rw [HE.out]; simp [results, Yba.results19, go_sem]) rfl ⟨rfl, ⟨[_, _], 0⟩, rfl⟩

end Go.Proofs.Ybulkbeeu
