/- The search in memory: 'Ov' at the lists of the plain search. -/
import Derived.Test.YbulkbeeuReach
import Derived.Test.YbulkbeeuSrch
namespace Go.Proofs.Ybulkbeeu
open Go.RowKit
set_option linter.unusedSimpArgs false
set_option linter.unusedVariables false

def codeP (p : Nd) : Int := code p.1 p.2
def bitsLen (M N : Mach) : Nat := (4 * (M.n + 1) * (N.n + 1) + 63) / 64
def SnIs (M N : Mach) (sn : Nat → Bool) (l : List Nd) : Prop := ∀ p, inR M N p → sn (idx N p) = decide (p ∈ l)

theorem total_eq (M N : Mach) : total M N = 4 * (M.n + 1) * (N.n + 1) := by
  unfold total
  rw [show 2 * (M.n + 1) * (2 * (N.n + 1)) = 2 * 2 * ((M.n + 1) * (N.n + 1)) from by rw [Nat.mul_mul_mul_comm], Nat.mul_assoc 4]

theorem total_le {M N : Mach} (hM : M.Ok) (hN : N.Ok) : total M N ≤ 266256 := by
  rw [total_eq]
  have h1 := hM.n256
  have h2 := hN.n256
  have : 4 * (M.n + 1) * (N.n + 1) ≤ 4 * 258 * 258 := Nat.mul_le_mul (Nat.mul_le_mul_left 4 (by omega)) (by omega)
  omega

theorem bitsLen_ge (M N : Mach) : total M N ≤ bitsLen M N * 64 := by
  rw [total_eq]
  unfold bitsLen
  omega

theorem bitsLen_le {M N : Mach} (hM : M.Ok) (hN : N.Ok) : bitsLen M N ≤ 5000 := by
  have h := total_le hM hN
  rw [total_eq] at h
  unfold bitsLen
  omega

def OvS (w0 w : World) (bb Pb Sv Pv S Bk base : Nat) (M N : Mach) (D pend : List Nd) (bud : Int) : Prop :=
  ∃ sn ao cap, Ov w0 w bb Pb Sv Pv S Bk base (N.n + 1) (bitsLen M N) bud sn ao cap (pend.map codeP) ∧ SnIs M N sn (D ++ pend)

/-- All blocks but the budget's, the pending variable's and those of uint64s are as they were. -/
structure Rest2 (w w' : World) (bb Pv : Nat) : Prop where
  size : w.heap.size ≤ w'.heap.size
  block : ∀ k, k < w.heap.size → k ≠ bb → k ≠ Pv → (∀ cur fr, w.heap[k]? ≠ some (.cells cur 25 fr)) → w'.heap[k]? = w.heap[k]?

theorem Rest2.trans {a b c : World} {bb Pv : Nat} (h : Rest2 a b bb Pv) (k : Rest2 b c bb Pv) : Rest2 a c bb Pv :=
  ⟨Nat.le_trans h.size k.size, fun i hi n1 n2 n3 => by
    have e := h.block i hi n1 n2 n3
    exact (k.block i (Nat.lt_of_lt_of_le hi h.size) n1 n2 (fun cur fr => by rw [e]; exact n3 cur fr)).trans e⟩

def ReachS (w0 w : World) (bb Pb Sv Pv S Bk base : Nat) (M N : Mach) (D pend : List Nd) (bud : Int) (e : Ending) (w' : World) : Prop :=
  e = .returned (.tuple #[]) ∧ OvS w0 w' bb Pb Sv Pv S Bk base M N D pend bud ∧ Rest2 w w' bb Pv

theorem reachS (w0 w : World) (bb Pb Sv Pv S Bk base : Nat) (M N : Mach) (D pend : List Nd) (bud : Int) (hl : Lay w0.heap.size bb Pb Sv Pv S Bk base) (hM : M.Ok) (hN : N.Ok)
    (h : OvS w0 w bb Pb Sv Pv S Bk base M N D pend bud) (hp : pend.length ≤ 300000) (hb0 : 0 < bud) (hb1 : bud ≤ 1073741824) (q : Nd) (hq : inR M N q) :
    Calls Yba.prog 12 #[entV q.1, entV q.2, .pointer (some ⟨Pb, 0, none⟩), .pointer (some ⟨Sv, 0, none⟩), .pointer (some ⟨Pv, 0, none⟩)] w (ReachS w0 w bb Pb Sv Pv S Bk base M N D (push1 D pend q) (bud - 1)) := by
  obtain ⟨sn, ao, cap, hO, hs⟩ := h
  have hi := idx_lt hq
  have hge := bitsLen_ge M N
  have hle := bitsLen_le hM hN
  have hn := hN.n256
  have hm := hM.n256
  have q1 := hq.1
  have q2 := hq.2
  have hsq := hs q hq
  have hlen : (pend.map codeP).length ≤ 1000000 := by simp; omega
  refine (reach_any w0 w bb Pb Sv Pv S Bk base (N.n + 1) (bitsLen M N) bud sn ao cap (pend.map codeP) hl hO q.1 q.2 (by omega) (by omega) (by omega) (by omega) (by unfold idx at hi; omega) hb0 hb1 hlen).mono ?_
  rintro e w' ⟨rfl, ao', cap', hO', hr⟩
  refine ⟨rfl, ⟨fun k => k == q.1 * 2 * (N.n + 1) + q.2 || sn k, ao', cap', ?_, ?_⟩, ?_⟩
  · have e : (if sn (q.1 * 2 * (N.n + 1) + q.2) = true then pend.map codeP else pend.map codeP ++ [code q.1 q.2]) = (push1 D pend q).map codeP := by
      have hsq' : sn (q.1 * 2 * (N.n + 1) + q.2) = decide (q ∈ D ++ pend) := hsq
      rw [hsq']
      unfold push1
      by_cases hm : q ∈ D ++ pend
      · simp only [hm, decide_true, if_true]
      · simp only [hm, decide_false, Bool.false_eq_true, if_false, List.map_append]
        rfl
    rw [← e]
    exact hO'
  · intro p hp'
    show (idx N p == idx N q || sn (idx N p)) = decide (p ∈ D ++ push1 D pend q)
    rw [hs p hp', Bool.eq_iff_iff]
    simp only [Bool.or_eq_true, beq_iff_eq, decide_eq_true_eq]
    rw [push1_mem]
    constructor
    · rintro (h | h)
      · exact .inl (idx_inj hp' hq h)
      · exact .inr h
    · rintro (h | h)
      · exact .inl (by rw [h])
      · exact .inr h
  · refine ⟨hr.size, fun k hk n1 n2 n3 => hr.block k hk n1 ?_ n2 ?_⟩
    · intro e
      subst e
      obtain ⟨cur, hb, _⟩ := hO.seen.bits
      exact n3 _ _ hb
    · intro e
      rcases hO.own.2 with ⟨h1, _⟩ | ⟨g, c, cur, h1, _, hb, _⟩
      · rw [h1] at e; simp [Value.ownBlock] at e
      · rw [h1] at e
        simp [Value.ownBlock] at e
        subst e
        exact n3 _ _ hb

end Go.Proofs.Ybulkbeeu
