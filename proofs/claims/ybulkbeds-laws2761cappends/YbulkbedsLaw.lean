import Derived.Test.YbulkbedsAdd
namespace Go.Proofs.Ybulkbeds
open Go.RowKit
set_option linter.unusedSimpArgs false
set_option linter.unusedVariables false

set_option maxHeartbeats 400000 in
theorem queued_any (w0 w : World) (R cap : Nat) (ao : Option Addr) (l : List (Int × Bool)) (hi : Inv w0 w R ao cap l) (hl : l.length ≤ 4096) :
    Calls Yba.prog 6 #[.pointer (some ⟨R, 0, none⟩)] w fun e w' => e = .returned (.bool (decide (0 < l.length))) ∧ w' = w := by
  have hq := hi.q
  have hu := hi.uh
  have hsz := hi.size
  by_cases h0 : l.length = 0
  · obtain rfl : l = [] := List.eq_nil_of_length_eq_zero h0
    rw [List.length_nil] at hq
    clear h0 hl
    go_enter Yba.func6, Yba.ntmps6
    go_wp2
    go_ret
    exact ⟨rfl, rfl⟩
  · have h1 : ((l.length : Int) != 0) = true := by rw [bne_iff_ne]; omega
    have h2 : 0 < l.length := by omega
    have H2 : Hid (0 < l.length) := h2
    clear h2 h0
    go_enter Yba.func6, Yba.ntmps6
    go_wp2
    go_ret
    exact ⟨by simp [H2.out], rfl⟩

def Lp (P : List Int) (T : List Bool) (k : Nat) : List (Int × Bool) := (List.range k).map fun i => (P.getD i 0, T.getD i false)
theorem Lp_succ (P : List Int) (T : List Bool) (k : Nat) : Lp P T (k + 1) = Lp P T k ++ [(P.getD k 0, T.getD k false)] := by simp [Lp, List.range_succ]
theorem Lp_length (P : List Int) (T : List Bool) (k : Nat) : (Lp P T k).length = k := by simp [Lp]

/-- A slice that came in, read cell by cell. -/
def Row (w : World) (a : Option Addr) (n : Nat) (f : Nat → Value) : Prop := ∀ i, i < n → ∃ b o, a = some ⟨b, o, none⟩ ∧ b < w.heap.size ∧ w.cell? ⟨b, o + i, none⟩ = some (f i)

theorem L2_left (P : List Int) (T : List Bool) (Q : List Int) (n k : Nat) (h : k < n) : (Lp P T n ++ Q.map fun p => (p, false)).getD k (0, false) = (P.getD k 0, T.getD k false) := by
  rw [List.getD_eq_getElem?_getD, List.getElem?_append_left (by rw [Lp_length]; exact h)]
  simp [Lp, h]

theorem L2_right (P : List Int) (T : List Bool) (Q : List Int) (n k : Nat) (h : k < Q.length) : (Lp P T n ++ Q.map fun p => (p, false)).getD (n + k) (0, false) = (Q.getD k 0, false) := by
  rw [List.getD_eq_getElem?_getD, List.getElem?_append_right (by rw [Lp_length]; omega), Lp_length]
  simp [h]

theorem eq_nilptr (w : World) : (Op.equalIn 9997 56 (.pointer none) (.pointer none)).run Yba.prog w = .ok true w := by kernel_rfl

theorem start_inv (w : World) (R : Nat) (h : w.heap.size = R) : Inv w (w.alloc (Obj.cells #[Value.nilIface, Value.nilFunc, Value.int IntKind.u64 0, Value.int IntKind.u32 0, Value.string { data := #[] },
          Value.int IntKind.u16 0, Value.int IntKind.u16 0, Value.bool false, Value.int IntKind.i64 0,
          Value.int IntKind.i64 0, Value.slice none 0 0, Value.int IntKind.i64 0, Value.chan none, Value.slice none 0 0,
          Value.int IntKind.u64 0, Value.int IntKind.i64 0, Value.pointer none] 53)) R none 0 [] := by
  subst h
  exact ⟨by simp, by simp, by simp, by simp, by simp, World.ownsRow_nil _ _ _ _, (Below.refl _ _).alloc (Nat.le_refl _) _⟩

set_option maxRecDepth 100000 in
set_option maxHeartbeats 8000000 in
theorem law_walk (w : World) (a0 a1 a2 : Option Addr) (n0 c0 n1 c1 n2 c2 : Nat) (P Q : List Int) (T : List Bool) (hP : P.length = n0) (hT : T.length = n1) (hQ : Q.length = n2)
    (r0 : Row w a0 n0 fun i => .int .u16 (P.getD i 0)) (r1 : Row w a1 n1 fun i => .bool (T.getD i false)) (r2 : Row w a2 n2 fun i => .int .u16 (Q.getD i 0))
    (hn0 : n0 ≤ 1024) (hn2 : n2 ≤ 1024) (hn1 : n1 ≤ 9223372036854775807) :
    Calls Yba.prog 3 #[.slice a0 n0 c0, .slice a1 n1 c1, .slice a2 n2 c2] w fun e w' => e = .returned (.bool true) ∧ Below w.heap.size w w' := by
  have g0 : decide ((1024 : Int) < n0) = false := by simp; omega
  have g2 : decide ((1024 : Int) < n2) = false := by simp; omega
  have HP : Hid _ := hP
  have HT : Hid _ := hT
  have HQ : Hid _ := hQ
  clear hP hT hQ
  go_enter Yba.func3, Yba.ntmps3
  go_wp2_with fail
  obtain ⟨R, hR⟩ : ∃ R, w.heap.size = R := ⟨_, rfl⟩
  have HR : Hid (w.heap.size = R) := hR
  have hRb : w.heap.size ≤ R := by omega
  rw [hR]
  have hs0 := start_inv w R hR
  clear hR
  go_loopg [32] n0 (fun g i wr => ∃ k ao1 cap1, k ≤ n0 ∧ g = n0 - k ∧ i = .int .i64 k ∧ Inv w wr R ao1 cap1 (Lp P T k))
  case atStart => exact ⟨0, none, 0, Nat.zero_le _, by simp, rfl, hs0⟩
  case round =>
    obtain ⟨k, ao1, cap1, hk, hg, rfl, hin⟩ := hrel
    have Hg : Hid (gk = n0 - k) := hg
    clear hg hs0
    have hl1b : (Lp P T k).length ≤ 2048 := by rw [Lp_length]; omega
    have HLs : Hid (Lp P T (k + 1) = Lp P T k ++ [(P.getD k 0, T.getD k false)]) := Lp_succ P T k
    have HLl : Hid ((Lp P T k).length = k) := Lp_length P T k
    by_cases hlt : k < n0
    · obtain ⟨b0, o0, rfl, hb0, hc0⟩ := r0 k hlt
      dsimp only at hc0
      obtain ⟨p, hp⟩ : ∃ p, P.getD k 0 = p := ⟨_, rfl⟩
      rw [hp] at hc0 HLs
      clear hp
      have hc : wr.cell? ⟨b0, o0 + k, none⟩ = some (.int .u16 p) := (hin.bel.cell (p := ⟨b0, o0 + k, none⟩) (by simp; omega)).trans hc0
      generalize Lp P T k = l1 at hin HLs HLl hl1b
      have hsz := hin.size
      have hq := hin.q
      have hfz := hin.fz
      have hq4 : ∀ x1 x2 x3 x4, ((((wr.alloc x1).alloc x2).alloc x3).alloc x4).cell? ⟨R, 10, none⟩ = some (.slice ao1 l1.length cap1) := fun x1 x2 x3 x4 => ((((hin.alloc x1).alloc x2).alloc x3).alloc x4).q
      have hq5 : ∀ x1 x2 x3 x4 x5, (((((wr.alloc x1).alloc x2).alloc x3).alloc x4).alloc x5).cell? ⟨R, 10, none⟩ = some (.slice ao1 l1.length cap1) := fun x1 x2 x3 x4 x5 => (((((hin.alloc x1).alloc x2).alloc x3).alloc x4).alloc x5).q
      by_cases ht : k < n1
      · obtain ⟨b1, o1, rfl, hb1, hc1⟩ := r1 k ht
        dsimp only at hc1
        obtain ⟨t, hp⟩ : ∃ t, T.getD k false = t := ⟨_, rfl⟩
        rw [hp] at hc1 HLs
        clear hp
        have hct : wr.cell? ⟨b1, o1 + k, none⟩ = some (.bool t) := (hin.bel.cell (p := ⟨b1, o1 + k, none⟩) (by simp; omega)).trans hc1
        clear hc0 hc1
        go_wp2_with fail
        go_region_law (first | (refine step_push rfl (.tmp 51) (.tmp 56) rfl w R ao1 cap1 l1 ((((((hin.alloc _).alloc _).alloc _).alloc _).alloc _).drew) (by omega) (by simp [Act.eval]) ⟨wr.heap.size + 4, 0, none⟩ (by simp [Act.eval]) (p, t) (att_new _ _ (by simp) p t) ?_; intro ao2 cap2 w2 hin2 hq2 hf2 hS2) | (go_simp; refine (cap p _).mono ?_; rintro e w' ⟨rfl, rfl⟩))
        all_goals
          go_wp2
          go_roundg (n0 - (k + 1))
          case measure => rw [Hg.out]; omega
          case rel => exact ⟨k + 1, ao2, cap2, by omega, rfl, by go_num, by rw [HLs.out]; exact hin2⟩
      · have htf : T.getD k false = false := by have := HT.out; simp [List.getD_eq_getElem?_getD, List.getElem?_eq_none (show T.length ≤ k from by omega)]
        rw [htf] at HLs
        clear htf hc0
        have ht' : decide ((k : Int) < n1) = false := by simp; omega
        go_wp2_with fail
        go_region_law (first | (refine step_push rfl (.tmp 51) (.tmp 56) rfl w R ao1 cap1 l1 ((((((hin.alloc _).alloc _).alloc _).alloc _).alloc _).drew) (by omega) (by simp [Act.eval]) ⟨wr.heap.size + 4, 0, none⟩ (by simp [Act.eval]) (p, false) (att_new _ _ (by simp) p false) ?_; intro ao2 cap2 w2 hin2 hq2 hf2 hS2) | (go_simp; refine (cap p _).mono ?_; rintro e w' ⟨rfl, rfl⟩))
        all_goals
          go_wp2
          go_roundg (n0 - (k + 1))
          case measure => rw [Hg.out]; omega
          case rel => exact ⟨k + 1, ao2, cap2, by omega, rfl, by go_num, by rw [HLs.out]; exact hin2⟩
    · obtain rfl : n0 = k := by omega
      have hmk := run_make_srv n2 hn2
      obtain ⟨l1, hl1⟩ : ∃ l1, Lp P T n0 = l1 := ⟨_, rfl⟩
      rw [hl1] at hin HLl hl1b
      have HL1 : Hid (Lp P T n0 = l1) := hl1
      clear HLs Hg hl1
      go_wp2_with fail
      obtain ⟨S, hS⟩ : ∃ S, wr.heap.size = S := ⟨_, rfl⟩
      have hRS : R < S := by have := hin.size; omega
      have hin1 := hin.alloc (.cells (srvCells n2) 62)
      have hsk := SrvK.start wr Q n2
      rw [hS] at hsk ⊢
      clear hS
      generalize wr.alloc (.cells (srvCells n2) 62) = w1 at *
      clear hin wr
      go_loopg [66] n2 (fun g i wr => ∃ k, k ≤ n2 ∧ g = n2 - k ∧ i = .int .i64 k ∧ Inv w wr R ao1 cap1 l1 ∧ SrvK wr S Q n2 k)
      case atStart => exact ⟨0, Nat.zero_le _, by simp, rfl, hin1, hsk⟩
      case round =>
        obtain ⟨k, hk, hg, rfl, hin, hsr⟩ := hrel
        have Hg : Hid (gk = n2 - k) := hg
        clear hg hin1 hsk
        by_cases hlt : k < n2
        · obtain ⟨b2, o2, rfl, hb2, hc2⟩ := r2 k hlt
          dsimp only at hc2
          obtain ⟨p, hp⟩ : ∃ p, Q.getD k 0 = p := ⟨_, rfl⟩
          rw [hp] at hc2
          have Hp : Hid (Q.getD k 0 = p) := hp
          clear hp
          have hc : wr.cell? ⟨b2, o2 + k, none⟩ = some (.int .u16 p) := (hin.bel.cell (p := ⟨b2, o2 + k, none⟩) (by simp; omega)).trans hc2
          clear hc2
          have hsz := hsr.lt
          have hd0 : ∀ x1 x2 x3 x4, ∃ u, ((((wr.alloc x1).alloc x2).alloc x3).alloc x4).cell? ⟨S, k * 4, none⟩ = some u := fun x1 x2 x3 x4 => ((((hsr.alloc x1).alloc x2).alloc x3).alloc x4).there _ (by omega)
          have hd1 : ∀ x1 x2 x3 x4, ∃ u, ((((wr.alloc x1).alloc x2).alloc x3).alloc x4).cell? ⟨S, k * 4 + 1, none⟩ = some u := fun x1 x2 x3 x4 => ((((hsr.alloc x1).alloc x2).alloc x3).alloc x4).there _ (by omega)
          have hd2 : ∀ x1 x2 x3 x4, ∃ u, ((((wr.alloc x1).alloc x2).alloc x3).alloc x4).cell? ⟨S, k * 4 + 2, none⟩ = some u := fun x1 x2 x3 x4 => ((((hsr.alloc x1).alloc x2).alloc x3).alloc x4).there _ (by omega)
          have hd3 : ∀ x1 x2 x3 x4, ∃ u, ((((wr.alloc x1).alloc x2).alloc x3).alloc x4).cell? ⟨S, k * 4 + 3, none⟩ = some u := fun x1 x2 x3 x4 => ((((hsr.alloc x1).alloc x2).alloc x3).alloc x4).there _ (by omega)
          have hf : ∀ x1 x2 x3 x4 j, ((((wr.alloc x1).alloc x2).alloc x3).alloc x4).frozen? ⟨S, j, none⟩ = false := fun x1 x2 x3 x4 j => ((((hsr.alloc x1).alloc x2).alloc x3).alloc x4).free j
          go_wp2_with fail
          refine (cap p _).mono ?_
          rintro e w' ⟨rfl, rfl⟩
          obtain ⟨v0, hv0⟩ := hd0 (.cells #[.int .u64 0, .int .u64 0, .pointer none, .int .u16 p] 62) (.cells #[.int .u64 0, .int .u64 0, .pointer none] 60) (.cells #[.int .u64 0, .int .u64 0, .pointer none] 60) (.cells #[.int .u64 0, .int .u64 0, .pointer none, .int .u16 p] 62)
          obtain ⟨v1, hv1⟩ := hd1 (.cells #[.int .u64 0, .int .u64 0, .pointer none, .int .u16 p] 62) (.cells #[.int .u64 0, .int .u64 0, .pointer none] 60) (.cells #[.int .u64 0, .int .u64 0, .pointer none] 60) (.cells #[.int .u64 0, .int .u64 0, .pointer none, .int .u16 p] 62)
          obtain ⟨v2, hv2⟩ := hd2 (.cells #[.int .u64 0, .int .u64 0, .pointer none, .int .u16 p] 62) (.cells #[.int .u64 0, .int .u64 0, .pointer none] 60) (.cells #[.int .u64 0, .int .u64 0, .pointer none] 60) (.cells #[.int .u64 0, .int .u64 0, .pointer none, .int .u16 p] 62)
          obtain ⟨v3, hv3⟩ := hd3 (.cells #[.int .u64 0, .int .u64 0, .pointer none, .int .u16 p] 62) (.cells #[.int .u64 0, .int .u64 0, .pointer none] 60) (.cells #[.int .u64 0, .int .u64 0, .pointer none] 60) (.cells #[.int .u64 0, .int .u64 0, .pointer none, .int .u16 p] 62)
          clear hd0 hd1 hd2 hd3
          go_wp2_with fail
          have hal := (((hsr.alloc (.cells #[.int .u64 0, .int .u64 0, .pointer none, .int .u16 p] 62)).alloc (.cells #[.int .u64 0, .int .u64 0, .pointer none] 60)).alloc (.cells #[.int .u64 0, .int .u64 0, .pointer none] 60)).alloc (.cells #[.int .u64 0, .int .u64 0, .pointer none, .int .u16 p] 62)
          have hai := (((hin.alloc (.cells #[.int .u64 0, .int .u64 0, .pointer none, .int .u16 p] 62)).alloc (.cells #[.int .u64 0, .int .u64 0, .pointer none] 60)).alloc (.cells #[.int .u64 0, .int .u64 0, .pointer none] 60)).alloc (.cells #[.int .u64 0, .int .u64 0, .pointer none, .int .u16 p] 62)
          go_roundg (n2 - (k + 1))
          case measure => rw [Hg.out]; omega
          case rel => exact ⟨k + 1, by omega, rfl, by go_num, hai.put hal hRS hlt _ _ _ _, hal.put hlt Hp.out⟩
        · obtain rfl : n2 = k := by omega
          have hsv : Srv wr S Q := by have := HQ.out; subst this; exact hsr.srv
          have hql : Q.length ≤ 1024 := by rw [HQ.out]; exact hn2
          have hl0 : l1.length ≤ 1024 := by rw [HLl.out]; exact hn0
          clear hsr Hg
          have hadd := add_any w wr R S n2 cap1 ao1 l1 Q hin hl0 hql hRS hsv
          rw [HQ.out] at hadd
          have Hadd : Hid _ := hadd
          clear hadd hin hsv
          go_wp2_with fail
          refine Calls.mono Hadd.out ?_
          clear Hadd
          rintro e w2 ⟨rfl, ao2, cap2, hin2, hsv2⟩
          have HL2 : Hid ((l1 ++ Q.map fun p => (p, false)).length = n0 + n2) := by show _ = _; rw [List.length_append, List.length_map, HLl.out, HQ.out]
          obtain ⟨l2, hl2⟩ : ∃ l2, l1 ++ Q.map (fun p => (p, false)) = l2 := ⟨_, rfl⟩
          rw [hl2] at hin2 HL2
          have Hl2 : Hid (l1 ++ Q.map (fun p => (p, false)) = l2) := hl2
          clear hl2 wr
          have hq := hin2.q
          rw [HL2.out] at hq
          have hwt := hin2.wt
          have huh := hin2.uh
          go_wp2_with fail
          clear hq hwt huh
          go_loopg [93] n0 (fun g i wr => ∃ k, k ≤ n0 ∧ g = n0 - k ∧ i = .int .i64 k ∧ Inv w wr R ao2 cap2 l2 ∧ Srv wr S Q)
          case atStart => exact ⟨0, Nat.zero_le _, by simp, rfl, hin2, hsv2⟩
          case round =>
            obtain ⟨k, hk, hg, rfl, hin, hsr⟩ := hrel
            have Hg : Hid (gk = n0 - k) := hg
            clear hg hin2 hsv2
            by_cases hlt : k < n0
            · obtain ⟨b0, o0, rfl, hb0, hc0⟩ := r0 k hlt
              dsimp only at hc0
              have hlq : l2.getD k (0, false) = (P.getD k 0, T.getD k false) := by rw [← Hl2.out, ← HL1.out]; exact L2_left P T Q n0 k hlt
              obtain ⟨g, rfl, hgl, q0, q1, q2, q3, q4⟩ := hin.qat k (by rw [HL2.out]; omega)
              rw [hlq] at q3 q4
              dsimp only at q3 q4
              obtain ⟨p, hp⟩ : ∃ p, P.getD k 0 = p := ⟨_, rfl⟩
              rw [hp] at hc0 q3
              clear hp hlq
              have hc : wr.cell? ⟨b0, o0 + k, none⟩ = some (.int .u16 p) := (hin.bel.cell (p := ⟨b0, o0 + k, none⟩) (by simp; omega)).trans hc0
              have hq := hin.q
              rw [HL2.out] at hq
              have heq := eq_nilptr
              have hki : (k : Int) < (n0 : Int) + (n2 : Int) := by omega
              have hki' : k < n0 + n2 := by omega
              have y0 := aft_cell q0
              have y1 := aft_cell q1
              have y2 := aft_cell q2
              have y3 := aft_cell q3
              have y4 := aft_cell q4
              have yq := aft_cell hq
              by_cases ht : k < n1
              · obtain ⟨b1, o1, rfl, hb1, hc1⟩ := r1 k ht
                dsimp only at hc1
                obtain ⟨t, hp⟩ : ∃ t, T.getD k false = t := ⟨_, rfl⟩
                rw [hp] at hc1 q4
                simp only [hp] at y4
                clear hp
                have hct : wr.cell? ⟨b1, o1 + k, none⟩ = some (.bool t) := (hin.bel.cell (p := ⟨b1, o1 + k, none⟩) (by simp; omega)).trans hc1
                clear hc0 hc1
                go_wp2_with fail
                have hnonempty : Nonempty Aft := ⟨⟨[], 0⟩⟩
                refine wp_region_aft (by kernel_rfl) (by kernel_rfl) ?_
                repeat (go_big_quiet_step (exact cap_aft p _ _))
                refine wpQuiet_nil ?_
                intro _ hw'
                obtain ⟨x, hx⟩ := hw'
                subst hx
                go_wp2_with fail
                go_roundg (n0 - (k + 1))
                case measure => rw [Hg.out]; omega
                case rel => exact ⟨k + 1, by omega, rfl, by go_num, hin.aft x, hsr.aft x⟩
              · have htf : T.getD k false = false := by have := HT.out; simp [List.getD_eq_getElem?_getD, List.getElem?_eq_none (show T.length ≤ k from by omega)]
                rw [htf] at q4
                simp only [htf] at y4
                clear htf hc0
                have ht' : decide ((k : Int) < n1) = false := by simp; omega
                go_wp2_with fail
                have hnonempty : Nonempty Aft := ⟨⟨[], 0⟩⟩
                refine wp_region_aft (by kernel_rfl) (by kernel_rfl) ?_
                repeat (go_big_quiet_step (exact cap_aft p _ _))
                refine wpQuiet_nil ?_
                intro _ hw'
                obtain ⟨x, hx⟩ := hw'
                subst hx
                go_wp2_with fail
                go_roundg (n0 - (k + 1))
                case measure => rw [Hg.out]; omega
                case rel => exact ⟨k + 1, by omega, rfl, by go_num, hin.aft x, hsr.aft x⟩
            · obtain rfl : n0 = k := by omega
              clear Hg
              have hwt := hin.wt
              have huh := hin.uh
              go_wp2_with fail
              go_loopg [134] n2 (fun g i wr => ∃ k, k ≤ n2 ∧ g = n2 - k ∧ i = .int .i64 k ∧ Inv w wr R ao2 cap2 l2 ∧ Srv wr S Q)
              case atStart => exact ⟨0, Nat.zero_le _, by simp, rfl, hin, hsr⟩
              case round =>
                clear hin hsr hwt huh
                obtain ⟨k, hk, hg, rfl, hin, hsr⟩ := hrel
                have Hg : Hid (gk = n2 - k) := hg
                clear hg
                by_cases hlt : k < n2
                · obtain ⟨b2, o2, rfl, hb2, hc2⟩ := r2 k hlt
                  dsimp only at hc2
                  have hlq : l2.getD (n0 + k) (0, false) = (Q.getD k 0, false) := by rw [← Hl2.out, ← HL1.out]; exact L2_right P T Q n0 k (by rw [HQ.out]; exact hlt)
                  obtain ⟨g, rfl, hgl, q0, q1, q2, q3, q4⟩ := hin.qat (n0 + k) (by rw [HL2.out]; omega)
                  rw [hlq] at q3 q4
                  dsimp only at q3 q4
                  obtain ⟨s0, s1, s2, s3⟩ := hsr.cells (i := k) (by rw [HQ.out]; exact hlt)
                  obtain ⟨p, hp⟩ : ∃ p, Q.getD k 0 = p := ⟨_, rfl⟩
                  rw [hp] at hc2 q3 s3
                  have Hp : Hid (Q.getD k 0 = p) := hp
                  clear hp hlq
                  have hc : wr.cell? ⟨b2, o2 + k, none⟩ = some (.int .u16 p) := (hin.bel.cell (p := ⟨b2, o2 + k, none⟩) (by simp; omega)).trans hc2
                  have hq := hin.q
                  rw [HL2.out] at hq
                  have heq := eq_nilptr
                  have hki : (n0 : Int) + (k : Int) < (n0 : Int) + (n2 : Int) := by omega
                  have hki' : k < n2 := by omega
                  clear hc2
                  go_wp2_with fail
                  have hin3 := hin.alloc (.cells #[.int .u64 0, .int .u64 0, .pointer none, .int .u16 p, .bool false] 65)
                  have hsr3 := hsr.alloc (.cells #[.int .u64 0, .int .u64 0, .pointer none, .int .u16 p, .bool false] 65)
                  have z0 : (wr.alloc (.cells #[.int .u64 0, .int .u64 0, .pointer none, .int .u16 p, .bool false] 65)).cell? ⟨wr.heap.size, 0, none⟩ = some (.int .u64 0) := by simp
                  have z1 : (wr.alloc (.cells #[.int .u64 0, .int .u64 0, .pointer none, .int .u16 p, .bool false] 65)).cell? ⟨wr.heap.size, 1, none⟩ = some (.int .u64 0) := by simp
                  have z2 : (wr.alloc (.cells #[.int .u64 0, .int .u64 0, .pointer none, .int .u16 p, .bool false] 65)).cell? ⟨wr.heap.size, 2, none⟩ = some (.pointer none) := by simp
                  have z3 : (wr.alloc (.cells #[.int .u64 0, .int .u64 0, .pointer none, .int .u16 p, .bool false] 65)).cell? ⟨wr.heap.size, 3, none⟩ = some (.int .u16 p) := by simp
                  have z4 : (wr.alloc (.cells #[.int .u64 0, .int .u64 0, .pointer none, .int .u16 p, .bool false] 65)).cell? ⟨wr.heap.size, 4, none⟩ = some (.bool false) := by simp
                  clear q0 q1 q2 q3 q4 s0 s1 s2 s3 hc hq hin hsr
                  generalize wr.alloc (.cells #[.int .u64 0, .int .u64 0, .pointer none, .int .u16 p, .bool false] 65) = w3 at *
                  have y0 := aft_cell z0
                  have y1 := aft_cell z1
                  have y2 := aft_cell z2
                  have y3 := aft_cell z3
                  have y4 := aft_cell z4
                  have hnonempty : Nonempty Aft := ⟨⟨[], 0⟩⟩
                  refine wp_region_aft (by kernel_rfl) (by kernel_rfl) ?_
                  repeat (go_big_quiet_step (exact cap_aft p _ _))
                  refine wpQuiet_nil ?_
                  intro _ hw'
                  obtain ⟨x, hx⟩ := hw'
                  subst hx
                  clear y0 y1 y2 y3 y4 z0 z1 z2 z3 z4
                  have hin4 := hin3.aft x
                  have hsr4 := hsr3.aft x
                  clear hin3 hsr3
                  generalize aft w3 x = w4 at *
                  obtain ⟨s0, s1, s2, s3⟩ := hsr4.cells (i := k) (by rw [HQ.out]; exact hlt)
                  have hp : Q.getD k 0 = p := Hp.out
                  rw [hp] at s3
                  clear hp
                  go_wp2_with fail
                  have y0 := aft_cell s0
                  have y1 := aft_cell s1
                  have y2 := aft_cell s2
                  have y3 := aft_cell s3
                  refine wp_region_aft (by kernel_rfl) (by kernel_rfl) ?_
                  repeat (go_big_quiet_step (exact cap_aft p _ _))
                  refine wpQuiet_nil ?_
                  intro _ hw'
                  obtain ⟨x', hx⟩ := hw'
                  subst hx
                  go_wp2_with fail
                  go_roundg (n2 - (k + 1))
                  case measure => rw [Hg.out]; omega
                  case rel => exact ⟨k + 1, by omega, rfl, by go_num, hin4.aft x', hsr4.aft x'⟩
                · obtain rfl : n2 = k := by omega
                  clear Hg
                  have hwt := hin.wt
                  have huh := hin.uh
                  have hqd := queued_any w wr R cap2 ao2 l2 hin (by rw [HL2.out]; omega)
                  rw [HL2.out] at hqd
                  have Hqd : Hid _ := hqd
                  clear hqd
                  go_wp2_with fail
                  refine Calls.mono Hqd.out ?_
                  clear Hqd
                  rintro e w' ⟨rfl, rfl⟩
                  by_cases h00 : 0 < n0 + n2
                  · have h01 : decide (0 < n0 + n2) = true := by simpa using h00
                    have h02 : decide ((0 : Int) < (n0 : Int) + (n2 : Int)) = true := by simp; omega
                    rw [h01]
                    go_wp2_with fail
                    go_ret
                    exact ⟨rfl, hin.bel.mono hRb⟩
                  · have h01 : decide (0 < n0 + n2) = false := by simpa using h00
                    have h02 : decide ((0 : Int) < (n0 : Int) + (n2 : Int)) = false := by simp; omega
                    rw [h01]
                    go_wp2_with fail
                    go_ret
                    exact ⟨rfl, hin.bel.mono hRb⟩
end Go.Proofs.Ybulkbeds
