/- zzs2763cglob. -/
import Derived.Test.YbulkbeeuClit
import Derived.Deep.RegionLaw
namespace Go.Proofs.Ybulkbeeu
open Go.RowKit
set_option linter.unusedSimpArgs false
set_option linter.unusedVariables false

theorem news36 {w W : World} {st : St} (hW : W = w.alloc (.cells #[.int .u8 st.op, .int .u8 st.b, .int .i64 st.arg, .int .i64 0] 36)) : ∀ j u, (stV st)[j]? = some u → W.cell? ((⟨w.heap.size, 0, none⟩ : Addr).add j) = some u := by
  intro j u hj
  rw [hW]
  match j, hj with
  | 0, hj => simp [stV] at hj; subst hj; simp [Addr.add]
  | 1, hj => simp [stV] at hj; subst hj; simp [Addr.add]
  | 2, hj => simp [stV] at hj; subst hj; simp [Addr.add]
  | 3, hj => simp [stV] at hj; subst hj; simp [Addr.add]
  | j + 4, hj => simp [stV] at hj

theorem news36_one (st : St) : ∀ u ∈ stV st, u.oneCell' = true := by
  intro u hu
  simp [stV] at hu
  rcases hu with rfl | rfl | rfl | rfl <;> rfl

/-- The append, at a step of a region that draws its order. -/
theorem step_push36 {ops : Array Oper} {o : Oper} {a : Act} {K : Act → World → Prop} {Q : Exit → Act → World → Prop} {E : Prop} {W : World} (hgd : o.guard = none) (s x : Operand)
    (ho : o.op = .call { callee := .builtin .append, args := #[s, x], argTypes := #[30, 30] })
    (w0 w w1 : World) (G base : Nat) (cv : Value) (l : List St) (ao : Option Addr) (cap : Nat) (h : Made w0 w w1 G base cv l ao cap) (hp : l.length ≤ 1000) (st : St)
    (hW : W = w.alloc (.cells #[.int .u8 st.op, .int .u8 st.b, .int .i64 st.arg, .int .i64 0] 36))
    (hs : a.eval s = .slice ao l.length cap) (hx : a.eval x = .slice (some ⟨w.heap.size, 0, none⟩) 1 1) (hf : w.frozen? ⟨G, 2, none⟩ = false)
    (hK : ∀ k cap' w', Hid (Made w0 (w'.setCell ⟨G, 0, none⟩ (.slice (some ⟨k, 0, none⟩) (l.length + 1) cap')) w1 G base cv (l ++ [st]) (some ⟨k, 0, none⟩) cap') →
      w'.cell? ⟨G, 0, none⟩ = some (.slice ao l.length cap) → w'.frozen? ⟨G, 0, none⟩ = false → Hid (w'.frozen? ⟨G, 2, none⟩ = false) →
      K (a.put o.dst (.slice (some ⟨k, 0, none⟩) (l.length + 1) cap')) w') :
    if Region.wanted o (yielded ops a.tmps) = true then Oper.wp Yba.prog o a W K Q else E := by
  obtain ⟨i0, hi0, hz0, hz1, hz2⟩ := info_parts Yba.i36
  have h2 := h.aft ⟨[.cells #[.int .u8 st.op, .int .u8 st.b, .int .i64 st.arg, .int .i64 0] 36], 0⟩
  have hW2 : W = Ybulkbeeu.aft w ⟨[.cells #[.int .u8 st.op, .int .u8 st.b, .int .i64 st.arg, .int .i64 0] 36], 0⟩ := hW
  rw [← hW2] at h2
  refine step_append_lies _ hgd s x 30 ho base 36 i0 _ 4 24 Yba.underlying30 hi0 hz0 hz1 hz2 rfl (by decide) _ l.length (stVs l) hs h2.own ⟨w.heap.size, 0, none⟩ 1 1 (stV st) hx rfl (news36 hW) (news36_one st) (by decide) (by unfold maxLen; omega) (by omega) h2.bs _ rfl ?_
  intro k cap' w' h3 h4 _ _
  have hq := h.gb
  have e : w'.heap[G]? = W.heap[G]? := h4.block G (by have := h2.bs; omega) (h2.ownNe hq)
  have e2 : W.heap[G]? = w.heap[G]? := by
    rw [hW2]
    exact (aft_below w _).block G (by have := h.bs; omega)
  exact hK k cap' w' (h2.push h3 h4) ((cell_same e 0).trans h2.cs) ((frozen_same e 0).trans h2.cf) ((frozen_same e 2).trans ((frozen_same e2 2).trans hf))

def CglobR (w wr w1 : World) (G : Nat) (s : ByteArray) (g : Nat) (i : Value) : Prop :=
  ∃ (k : Nat) (ao : Option Addr) (cap : Nat), k ≤ s.size ∧ g = s.size - k ∧ i = .int .i64 k ∧ wr.frozen? ⟨G, 2, none⟩ = false ∧ Made w wr w1 G (G + 1) (.slice none 0 0) ((s.data.toList.take k).map fun b => litS b.toNat) ao cap

def CglobPost (w : World) (s : ByteArray) (e : Ending) (w' : World) : Prop :=
  ∃ G ao cap w1, e = .returned (.pointer (some ⟨G, 0, none⟩)) ∧ w'.frozen? ⟨G, 2, none⟩ = false ∧ Made w w' w1 G (G + 1) (.slice none 0 0) (s.data.toList.map fun b => litS b.toNat) ao cap

theorem take_snoc_lit (s : ByteArray) (k : Nat) (h : k < s.size) : (s.data.toList.take (k + 1)).map (fun b => litS b.toNat) = (s.data.toList.take k).map (fun b => litS b.toNat) ++ [litS s[k].toNat] := by
  have h2 : k < s.data.toList.length := h
  rw [List.take_succ_eq_append_getElem h2, List.map_append]
  rfl

set_option maxRecDepth 100000 in
set_option maxHeartbeats 2000000 in
theorem cglob_any (w : World) (s : ByteArray) (hs : s.size ≤ 256) : Calls Yba.prog 6 #[.string s] w (CglobPost w s) := by
  have hm0 : Made w (w.alloc (.cells #[.slice none 0 0, .slice none 0 0, .slice none 0 0] 33)) (w.alloc (.cells #[.slice none 0 0, .slice none 0 0, .slice none 0 0] 33)) w.heap.size (w.heap.size + 1) (.slice none 0 0) [] none 0 := by
    refine ⟨by omega, by omega, by simp [go_sem], by go_simp, by go_simp, by go_simp, ⟨rfl, .inl ⟨rfl, rfl⟩⟩, fun _ _ _ => rfl, grown_aft w ⟨[.cells #[.slice none 0 0, .slice none 0 0, .slice none 0 0] 33], 0⟩ none⟩
  have Hm0 : Hid _ := hm0
  have hf0 : (w.alloc (.cells #[.slice none 0 0, .slice none 0 0, .slice none 0 0] 33)).frozen? ⟨w.heap.size, 2, none⟩ = false := by go_simp
  have Hf0 : Hid _ := hf0
  clear hm0 hf0
  go_enter Yba.func6, Yba.ntmps6
  go_wp2_with fail
  have hm0 := Hm0.out
  have hf0 := Hf0.out
  clear Hm0 Hf0
  generalize w.alloc (.cells #[.slice none 0 0, .slice none 0 0, .slice none 0 0] 33) = w1 at *
  obtain ⟨G, hG⟩ : ∃ G, G = w.heap.size := ⟨_, rfl⟩
  rw [← hG] at hm0 hf0 ⊢
  have HG : Hid _ := hG
  clear hG
  go_loopg [4] s.size (fun g i wr => CglobR w wr w1 G s g i)
  case atStart => exact ⟨0, none, 0, Nat.zero_le _, by simp, rfl, hf0, by simpa using hm0⟩
  case round =>
    clear hm0 hf0
    obtain ⟨k, ao, cap', hk, hgk, rfl, hf, hm⟩ := hrel
    have Hgk : Hid (gk = s.size - k) := hgk
    clear hgk
    by_cases hlt : k < s.size
    · have Hsn : Hid _ := take_snoc_lit s k hlt
      obtain ⟨b, hb⟩ : ∃ b, s[k] = b := ⟨_, rfl⟩
      rw [hb] at Hsn
      obtain ⟨l, hll⟩ : ∃ l, (s.data.toList.take k).map (fun b => litS b.toNat) = l := ⟨_, rfl⟩
      have hlk : l.length ≤ 256 := by rw [← hll]; simp; omega
      rw [hll] at hm
      have Hl : Hid ((s.data.toList.take k).map (fun b => litS b.toNat) = l) := hll
      clear hll
      have g1 := hm.cs
      have g2 := hm.cf
      have g3 : G < wr.heap.size := by have := hm.gb; have := hm.bs; omega
      have i1 : (k : Int) < (s.size : Int) := by omega
      go_wp2_with fail
      go_region_law (refine step_push36 rfl (.tmp 17) (.tmp 22) rfl w wr.drew w1 G (G + 1) _ l ao cap' (hm.aft ⟨[], 1⟩) (by omega) (litS b.toNat) rfl (by simp [Act.eval, Act.put]) (by simp [Act.eval, Act.put]) hf ?_; intro k2 cap2 w2 hm2 c7 c8 c9)
      all_goals
        go_wp2_with fail
        go_roundg (s.size - (k + 1))
        case measure => rw [Hgk.out]; omega
        case rel => exact ⟨k + 1, _, _, by omega, rfl, by go_num, by rw [World.frozen?_setCell]; exact c9.out, by rw [Hsn.out, Hl.out]; exact hm2.out⟩
    · obtain rfl : k = s.size := by omega
      have hm2 : Made w wr w1 G (G + 1) (.slice none 0 0) (s.data.toList.map fun b => litS b.toNat) ao cap' := by
        have e : s.data.toList.take s.size = s.data.toList := List.take_of_length_le (Nat.le_refl _)
        rw [e] at hm
        exact hm
      have Hm2 : Hid _ := hm2
      have Hf : Hid _ := hf
      clear hm hm2 hf
      go_wp2_with fail
      go_ret
      exact ⟨G, _, _, _, rfl, Hf.out, Hm2.out⟩
end Go.Proofs.Ybulkbeeu
