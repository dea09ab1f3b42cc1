/- The leaves: flag, pairOf, pairEntries, byteSet.add, byteSet.meets. -/
import Derived.Test.YbulkbeeuAft
import Derived.Test.YbulkbeeuPlain
import Derived.Laws.BitsAllLaws
namespace Go.Proofs.Ybulkbeeu
open Go.RowKit
set_option linter.unusedSimpArgs false
set_option linter.unusedVariables false

def fl (X : Nat) : Bool := decide (X % 2 = 1)
def enc (i : Nat) (f : Bool) : Nat := 2 * i + (if f then 1 else 0)
def code (X Y : Nat) : Int := (X : Int) * 4294967296 + (Y : Int)
/-- An entry as Go holds it. -/
def entV (X : Nat) : Value := .agg #[.int .i64 ((X : Int) / 2), .bool (fl X)]

theorem enc_div (i : Nat) (f : Bool) : enc i f / 2 = i := by unfold enc; split <;> omega
theorem enc_fl (i : Nat) (f : Bool) : fl (enc i f) = f := by cases f <;> simp [fl, enc] <;> omega
theorem enc_back (X : Nat) : enc (X / 2) (fl X) = X := by
  unfold enc fl
  by_cases h : X % 2 = 1
  · simp [h]; omega
  · simp [h]; omega

set_option maxHeartbeats 400000 in
theorem flag_any (b : Bool) (w : World) : Calls Yba.prog 21 #[.bool b] w fun e w' => e = .returned (.int .i64 (if b then 1 else 0)) ∧ w' = w := by
  cases b
  all_goals
    go_enter Yba.func21, Yba.ntmps21
    go_wp2
    go_ret
    exact ⟨rfl, rfl⟩

theorem or_code (X Y : Nat) (hx : X < 4294967296) (hy : Y < 4294967296) : bits .or .u64 ((X : Int) * 4294967296) (Y : Int) = code X Y := by
  have hj : X * 4294967296 ||| Y = X * 4294967296 + Y := nat_join 32 _ _ (by omega) (by omega)
  have h := u64_or_nat (X * 4294967296) Y (by omega) (by omega)
  rw [hj, Int.natCast_mul, Int.natCast_add, Int.natCast_mul] at h
  exact h

theorem enc_le (x : Nat) (f : Bool) : enc x f ≤ 2 * x + 1 := by unfold enc; split <;> omega
theorem enc_f (x : Nat) : ((enc x false : Nat) : Int) = 2 * (x : Int) := by unfold enc; simp
theorem enc_t (x : Nat) : ((enc x true : Nat) : Int) = 2 * (x : Int) + 1 := by unfold enc; simp

theorem or_enc (x y : Nat) (hx : x ≤ 100000) (hy : y ≤ 100000) (f g : Bool) :
    bits .or .u64 ((enc x f : Int) * 4294967296) (enc y g : Int) = code (enc x f) (enc y g) :=
  or_code _ _ (by have := enc_le x f; omega) (by have := enc_le y g; omega)

set_option maxHeartbeats 400000 in
theorem pairOf_any (x y : Nat) (hx : x ≤ 100000) (hy : y ≤ 100000) (f g : Bool) (w : World) : Calls Yba.prog 13 #[.agg #[.int .i64 x, .bool f], .agg #[.int .i64 y, .bool g]] w fun e w' => e = .returned (.int .u64 (code (enc x f) (enc y g))) ∧ ∃ x, w' = aft w x := by
  have Hq : Hid (bits .or .u64 ((enc x f : Int) * 4294967296) (enc y g : Int) = code (enc x f) (enc y g)) := or_enc x y hx hy f g
  cases f <;> cases g
  all_goals
    simp only [enc_f, enc_t] at Hq
    go_enter Yba.func13, Yba.ntmps13
    go_wp2
    go_quiet (exact Calls.quiet_of_same (flag_any _ _))
    go_wp2
    go_ret
    exact ⟨congrArg (fun n => Ending.returned (.int .u64 n)) Hq.out, ⟨[.cells #[.int .i64 x, .bool _] 50, .cells #[.int .i64 y, .bool _] 50], nq⟩, rfl⟩

theorem and_one (X : Nat) (hx : X < 18446744073709551616) : bits .and .u64 (X : Int) 1 = ((X % 2 : Nat) : Int) := by
  have h := u64_and_nat X 1 hx (by omega)
  rw [nat_mask1] at h
  exact h

set_option maxRecDepth 100000 in
set_option maxHeartbeats 400000 in
theorem pairEntries_any (X Y : Nat) (hx : X < 2147483648) (hy : Y < 2147483648) (w : World) : Calls Yba.prog 15 #[.int .u64 (code X Y)] w fun e w' => e = .returned (.tuple #[entV X, entV Y]) ∧ ∃ x, w' = aft w x := by
  have e1 : code X Y / 8589934592 = (X : Int) / 2 := by unfold code; omega
  have e2 : code X Y / 4294967296 = (X : Int) := by unfold code; omega
  have e3 : (bits .and .u64 (X : Int) 1 == 1) = fl X := by
    rw [and_one X (by omega)]; unfold fl
    by_cases h : X % 2 = 1 <;> simp [h] <;> omega
  have hc : code X Y = ((X * 4294967296 + Y : Nat) : Int) := by unfold code; omega
  have e4 : bits .and .u64 (code X Y) 4294967295 = (Y : Int) := by
    rw [hc]
    have h := u64_and_nat (X * 4294967296 + Y) 4294967295 (by omega) (by omega)
    rw [show (4294967295 : Nat) = 2 ^ 32 - 1 from rfl, Nat.and_two_pow_sub_one_eq_mod] at h
    have h2 : (X * 4294967296 + Y) % 2 ^ 32 = Y := by omega
    rw [h2] at h
    exact h
  have e5 : (bits .and .u64 (code X Y) 1 == 1) = fl Y := by
    rw [hc, and_one _ (by omega)]; unfold fl
    have : (X * 4294967296 + Y) % 2 = Y % 2 := by omega
    rw [this]
    by_cases h : Y % 2 = 1 <;> simp [h] <;> omega
  have l0 : 0 ≤ code X Y := by unfold code; omega
  have l1 : code X Y ≤ 9223372036854775807 := by unfold code; omega
  clear hc
  generalize hA : code X Y = A at *
  clear hA
  go_enter Yba.func15, Yba.ntmps15
  go_wp2
  refine bodyPost_ret (v := .tuple #[entV X, entV Y]) (by simp [results, Yba.results15, go_sem, entV]) rfl ⟨rfl, ?_⟩
  exact ⟨⟨[.cells #[.int .i64 ((X : Int) / 2), .bool (fl X)] 50, .cells #[.int .i64 ((Y : Int) / 2), .bool (fl Y)] 50], 0⟩, rfl⟩

set_option maxHeartbeats 400000 in
theorem add_47 (c : Nat) (w : World) (a1 r : Int) (h1 : w.cell? ⟨c, 0, none⟩ = some (.int .u64 a1)) (hf : w.frozen? ⟨c, 0, none⟩ = false) (hr : bits .or .u64 a1 140737488355328 = r) :
    Calls Yba.prog 7 #[.pointer (some ⟨c, 0, none⟩), .int .u8 47] w fun e w' => e = .returned (.tuple #[]) ∧ w' = (w.setCell ⟨c, 0, none⟩ (.int .u64 r)).drew := by
  have s1 : bits .and .u8 47 63 = 47 := by decide +kernel
  go_enter Yba.func7, Yba.ntmps7
  go_wp2
  go_region
  all_goals
    go_wp2
    go_end0
    exact ⟨rfl, rfl⟩

set_option maxHeartbeats 400000 in
theorem add_97 (c : Nat) (w : World) (a1 r : Int) (h1 : w.cell? ⟨c, 1, none⟩ = some (.int .u64 a1)) (hf : w.frozen? ⟨c, 1, none⟩ = false) (hr : bits .or .u64 a1 8589934592 = r) :
    Calls Yba.prog 7 #[.pointer (some ⟨c, 0, none⟩), .int .u8 97] w fun e w' => e = .returned (.tuple #[]) ∧ w' = (w.setCell ⟨c, 1, none⟩ (.int .u64 r)).drew := by
  have s1 : bits .and .u8 97 63 = 33 := by decide +kernel
  go_enter Yba.func7, Yba.ntmps7
  go_wp2
  go_region
  all_goals
    go_wp2
    go_end0
    exact ⟨rfl, rfl⟩

set_option maxHeartbeats 400000 in
theorem add_98 (c : Nat) (w : World) (a1 r : Int) (h1 : w.cell? ⟨c, 1, none⟩ = some (.int .u64 a1)) (hf : w.frozen? ⟨c, 1, none⟩ = false) (hr : bits .or .u64 a1 17179869184 = r) :
    Calls Yba.prog 7 #[.pointer (some ⟨c, 0, none⟩), .int .u8 98] w fun e w' => e = .returned (.tuple #[]) ∧ w' = (w.setCell ⟨c, 1, none⟩ (.int .u64 r)).drew := by
  have s1 : bits .and .u8 98 63 = 34 := by decide +kernel
  go_enter Yba.func7, Yba.ntmps7
  go_wp2
  go_region
  all_goals
    go_wp2
    go_end0
    exact ⟨rfl, rfl⟩

set_option maxHeartbeats 400000 in
theorem add_99 (c : Nat) (w : World) (a1 r : Int) (h1 : w.cell? ⟨c, 1, none⟩ = some (.int .u64 a1)) (hf : w.frozen? ⟨c, 1, none⟩ = false) (hr : bits .or .u64 a1 34359738368 = r) :
    Calls Yba.prog 7 #[.pointer (some ⟨c, 0, none⟩), .int .u8 99] w fun e w' => e = .returned (.tuple #[]) ∧ w' = (w.setCell ⟨c, 1, none⟩ (.int .u64 r)).drew := by
  have s1 : bits .and .u8 99 63 = 35 := by decide +kernel
  go_enter Yba.func7, Yba.ntmps7
  go_wp2
  go_region
  all_goals
    go_wp2
    go_end0
    exact ⟨rfl, rfl⟩

/-- The four words of a set at block c. -/
def SetAt (w : World) (c : Nat) (s : Bs) : Prop := w.cell? ⟨c, 0, none⟩ = some (.int .u64 s.w0) ∧ w.cell? ⟨c, 1, none⟩ = some (.int .u64 s.w1) ∧ w.cell? ⟨c, 2, none⟩ = some (.int .u64 0) ∧ w.cell? ⟨c, 3, none⟩ = some (.int .u64 0)

set_option maxHeartbeats 1000000 in
theorem meets_any (c d : Nat) (s t : Bs) (w : World) (hs : SetAt w c s) (ht : SetAt w d t) (b0 : s.w0 < 18446744073709551616) (b1 : s.w1 < 18446744073709551616) (b2 : t.w0 < 18446744073709551616) (b3 : t.w1 < 18446744073709551616) :
    Calls Yba.prog 18 #[.pointer (some ⟨c, 0, none⟩), .pointer (some ⟨d, 0, none⟩)] w fun e w' => e = .returned (.bool (meetB s t)) ∧ ∃ n, w' = w.drewN n := by
  obtain ⟨h0, h1, h2, h3⟩ := hs
  obtain ⟨g0, g1, g2, g3⟩ := ht
  obtain ⟨A, hA⟩ : ∃ A, bits .and .u64 (s.w0 : Int) (t.w0 : Int) = A := ⟨_, rfl⟩
  obtain ⟨B, hB⟩ : ∃ B, bits .and .u64 (s.w1 : Int) (t.w1 : Int) = B := ⟨_, rfl⟩
  have z : bits .and .u64 0 0 = 0 := by decide +kernel
  have Hm : Hid (meetB s t = ((A != 0) || (B != 0))) := by
    show meetB s t = _
    rw [← hA, ← hB, u64_and_nat _ _ b0 b2, u64_and_nat _ _ b1 b3]
    unfold meetB
    have e : ∀ n : Nat, (n != 0) = (((n : Nat) : Int) != 0) := by intro n; rw [Bool.eq_iff_iff]; simp
    rw [e, e]
  clear b0 b1 b2 b3
  generalize (s.w0 : Int) = x0 at *
  generalize (s.w1 : Int) = x1 at *
  generalize (t.w0 : Int) = y0 at *
  generalize (t.w1 : Int) = y1 at *
  go_enter Yba.func18, Yba.ntmps18
  go_wp2
  go_loopg [6] 4 (fun g i wr => ∃ k : Nat, k ≤ 4 ∧ g = 4 - k ∧ i = .int .i64 k ∧ (0 < k → (A != 0) = false) ∧ (1 < k → (B != 0) = false) ∧ ∃ n, wr = w.drewN n)
  case atStart => exact ⟨0, by omega, rfl, rfl, by omega, by omega, 0, rfl⟩
  case round =>
    obtain ⟨k, hk, hg, rfl, ka, kb, n, rfl⟩ := hrel
    have Hg : Hid (gk = 4 - k) := hg
    clear hg
    rcases (show k = 0 ∨ k = 1 ∨ k = 2 ∨ k = 3 ∨ k = 4 from by omega) with rfl | rfl | rfl | rfl | rfl
    · clear ka kb
      cases hAz : (A != 0)
      · go_wp2
        go_quiet (fail)
        go_wp2
        go_roundg 3
        case measure => have := Hg.out; omega
        case rel => exact ⟨1, by omega, rfl, rfl, fun _ => hAz, by omega, _, rfl⟩
      · go_wp2
        go_quiet (fail)
        go_wp2
        go_ret
        exact ⟨by rw [Hm.out, hAz]; rfl, n + nq, by simp⟩
    · have hAz := ka (by omega)
      clear ka kb
      cases hBz : (B != 0)
      · go_wp2
        go_quiet (fail)
        go_wp2
        go_roundg 2
        case measure => have := Hg.out; omega
        case rel => exact ⟨2, by omega, rfl, rfl, fun _ => hAz, fun _ => hBz, _, rfl⟩
      · go_wp2
        go_quiet (fail)
        go_wp2
        go_ret
        exact ⟨by rw [Hm.out, hAz, hBz]; rfl, n + nq, by simp⟩
    · have hAz := ka (by omega)
      have hBz := kb (by omega)
      clear ka kb
      go_wp2
      go_quiet (fail)
      go_wp2
      go_roundg 1
      case measure => have := Hg.out; omega
      case rel => exact ⟨3, by omega, rfl, rfl, fun _ => hAz, fun _ => hBz, _, rfl⟩
    · have hAz := ka (by omega)
      have hBz := kb (by omega)
      clear ka kb
      go_wp2
      go_quiet (fail)
      go_wp2
      go_roundg 0
      case measure => have := Hg.out; omega
      case rel => exact ⟨4, by omega, rfl, rfl, fun _ => hAz, fun _ => hBz, _, rfl⟩
    · have hAz := ka (by omega)
      have hBz := kb (by omega)
      clear ka kb
      go_wp2
      go_ret
      exact ⟨by rw [Hm.out, hAz, hBz]; rfl, _, rfl⟩

end Go.Proofs.Ybulkbeeu
