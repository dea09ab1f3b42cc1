/- (*Round).Add and (*Round).Queued. -/
import Derived.Test.YbulkbedsInv
namespace Go.Proofs.Ybulkbeds
open Go.RowKit
set_option linter.unusedSimpArgs false
set_option linter.unusedVariables false

theorem take_snoc_map (ps : List Int) (k : Nat) (h : k < ps.length) (l : List (Int × Bool)) :
    l ++ (ps.take (k + 1)).map (fun p => (p, false)) = l ++ (ps.take k).map (fun p => (p, false)) ++ [(ps.getD k 0, false)] := by
  rw [List.take_succ_eq_append_getElem h, List.map_append, List.getD_eq_getElem?_getD, List.getElem?_eq_getElem h, List.append_assoc]
  rfl

set_option maxHeartbeats 400000 in
theorem add_any (w0 w : World) (R S cs cap : Nat) (ao : Option Addr) (l : List (Int × Bool)) (ps : List Int)
    (hi : Inv w0 w R ao cap l) (hl : l.length ≤ 1024) (hps : ps.length ≤ 1024)
    (hS : R < S) (hsv : Srv w S ps) :
    Calls Yba.prog 5 #[.pointer (some ⟨R, 0, none⟩), .slice (some ⟨S, 0, none⟩) ps.length cs] w fun e w' => e = .returned (.tuple #[]) ∧ ∃ ao' cap', Inv w0 w' R ao' cap' (l ++ ps.map fun p => (p, false)) ∧ Srv w' S ps := by
  go_enter Yba.func5, Yba.ntmps5
  go_wp2
  go_loopg [8] ps.length (fun g i wr => ∃ k ao1 cap1, k ≤ ps.length ∧ g = ps.length - k ∧ i = .int .i64 k ∧ Inv w0 wr R ao1 cap1 (l ++ (ps.take k).map fun p => (p, false)) ∧ Srv wr S ps)
  case atStart => exact ⟨0, ao, cap, Nat.zero_le _, by simp, rfl, by simpa using hi, hsv⟩
  case round =>
    obtain ⟨k, ao1, cap1, hk, hg, rfl, hin, hs⟩ := hrel
    have Hg : Hid (gk = ps.length - k) := hg
    clear hg hi hsv
    by_cases hlt : k < ps.length
    · obtain ⟨c0, c1, c2, c3⟩ := hs.cells hlt
      obtain ⟨p, hp⟩ : ∃ p, ps.getD k 0 = p := ⟨_, rfl⟩
      rw [hp] at c3
      have Hp : Hid (ps.getD k 0 = p) := hp
      clear hp
      obtain ⟨l1, hl1⟩ : ∃ l1, l ++ (ps.take k).map (fun p => (p, false)) = l1 := ⟨_, rfl⟩
      have hl1b : l1.length ≤ 2048 := by rw [← hl1]; simp; omega
      rw [hl1] at hin
      have Hl1 : Hid (l ++ (ps.take k).map (fun p => (p, false)) = l1) := hl1
      clear hl1
      have hsz := hin.size
      have hq := hin.q
      have hfz := hin.fz
      go_wp2
      go_region_law (refine step_push rfl (.tmp 16) (.tmp 19) rfl w0 R ao1 cap1 l1 (((hin.alloc _).alloc _).drew) (by omega) (by simp [Act.eval, Act.put]) ⟨wr.heap.size + 1, 0, none⟩ (by simp [Act.eval, Act.put]) (p, false) (att_new _ _ (by simp) p false) ?_; intro ao2 cap2 w2 hin2 hq2 hf2 hS2)
      all_goals
        go_wp2
        go_roundg (ps.length - (k + 1))
        case measure => rw [Hg.out]; omega
        case rel => exact ⟨k + 1, ao2, cap2, by omega, rfl, by go_num, by rw [take_snoc_map ps k hlt, Hl1.out, Hp.out]; exact hin2, hS2.out S ps hS ((hs.alloc _).alloc _).drew⟩
    · obtain rfl : k = ps.length := by omega
      go_wp2
      go_end0
      exact ⟨rfl, ao1, cap1, by simpa using hin, hs⟩
end Go.Proofs.Ybulkbeds
