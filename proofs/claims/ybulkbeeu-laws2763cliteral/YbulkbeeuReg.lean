/- 'if bytesX, bytesY := g.takes(x.at), h.takes(y.at); ..': the one region whose variables may be laid ahead of, between or behind the two calls. -/
import Derived.Test.YbulkbeeuAny
import Derived.Test.YbulkbeeuMid
namespace Go.Proofs.Ybulkbeeu
open Go.RowKit
set_option linter.unusedSimpArgs false
set_option linter.unusedVariables false

/-- The frames agree but for the slots ds. -/
structure Agr (ds : List Nat) (a0 a : Act) : Prop where
  d : a.defers = a0.defers
  n : a.tmps.size = a0.tmps.size
  s : ∀ s, s ∉ ds → a.tmps[s]? = a0.tmps[s]?

theorem Agr.refl (ds : List Nat) (a : Act) : Agr ds a a := ⟨rfl, rfl, fun _ _ => rfl⟩

theorem Agr.put {ds : List Nat} {a0 a : Act} (h : Agr ds a0 a) {d : Nat} (hd : d ∈ ds) (v : Value) : Agr ds a0 (a.put (some d) v) :=
  ⟨h.d, by simp [Act.put, h.n], fun s hs => by
    have : d ≠ s := fun e => hs (e ▸ hd)
    simp only [Act.put]
    rw [Array.getElem?_setIfInBounds_ne this]
    exact h.s s hs⟩

theorem Agr.eval {ds : List Nat} {a0 a : Act} (h : Agr ds a0 a) {s : Nat} (hs : s ∉ ds) : a.eval (.tmp s) = a0.eval (.tmp s) := by
  have := h.s s hs
  simp only [Act.eval, Array.getD_eq_getD_getElem?, this]

theorem eval_same {a : Act} {d : Nat} (h : d < a.tmps.size) (v : Value) : (a.put (some d) v).eval (.tmp d) = v := by
  simp [Act.eval, Act.put, h]

theorem eval_ne {a : Act} {d s : Nat} (h : d ≠ s) (v : Value) : (a.put (some d) v).eval (.tmp s) = a.eval (.tmp s) := by
  simp only [Act.eval, Act.put, Array.getD_eq_getD_getElem?]
  rw [Array.getElem?_setIfInBounds_ne h]

theorem act_eq {a b : Act} (h1 : a.defers = b.defers) (h2 : ∀ s : Nat, a.tmps[s]? = b.tmps[s]?) : a = b := by
  obtain ⟨ta, da⟩ := a
  obtain ⟨tb, db⟩ := b
  simp only at h1 h2
  rw [h1, Array.ext_getElem? h2]

/-- .. so one is the other with those slots laid anew. -/
theorem Agr.fill {a0 : Act} : ∀ (ds : List Nat) (a : Act), Agr ds a0 a → (∀ d ∈ ds, d < a0.tmps.size) → a = ds.foldl (fun acc d => acc.put (some d) (a.eval (.tmp d))) a0 := by
  intro ds a h hd
  have key : ∀ (es : List Nat) (b : Act), b.defers = a.defers → b.tmps.size = a.tmps.size → (∀ d ∈ es, d < a.tmps.size) → (∀ s, s ∉ es → b.tmps[s]? = a.tmps[s]?) → es.foldl (fun acc d => acc.put (some d) (a.eval (.tmp d))) b = a := by
    intro es
    induction es with
    | nil => intro b h1 h2 _ h4; exact act_eq h1 (fun s => h4 s (by simp))
    | cons e es ih =>
      intro b h1 h2 h3 h4
      have he : e < a.tmps.size := h3 e (by simp)
      refine ih (b.put (some e) (a.eval (.tmp e))) h1 (by simp [Act.put, h2]) (fun d hd => h3 d (by simp [hd])) (fun s hs => ?_)
      by_cases hse : s = e
      · subst hse
        simp only [Act.put]
        rw [Array.getElem?_setIfInBounds_self_of_lt (by omega)]
        simp [Act.eval, he]
      · simp only [Act.put]
        rw [Array.getElem?_setIfInBounds_ne (fun e' => hse e'.symm)]
        exact h4 s (by simp [hse, hs])
  exact (key ds a0 h.d.symm h.n.symm (fun d hd' => by rw [h.n]; exact hd d hd') (fun s hs => (h.s s hs).symm)).symm

/-- The region's operations; t0 .. t11: the places in the Go text. -/
abbrev ops25 (t0 t1 t2 t3 t4 t5 t6 t7 t8 t9 t10 t11 : String) : List Oper := [{ dst := some 124, op := Op.move (Operand.tmp 0), type := 23, pos := t0, after := #[], guard := none },
  { dst := some 125, op := Op.fieldAddr 50 (Operand.tmp 12) 0, type := 0, pos := t1, after := #[], guard := none },
  { dst := some 126, op := Op.load 3 (Operand.tmp 125), type := 3, pos := t2, after := #[{ on := 1, ground := Ground.data }], guard := none },
  { dst := some 127, op := Op.call { callee := Callee.value (Operand.func 17), args := #[Operand.tmp 124, Operand.tmp 126], argTypes := #[23, 3] }, type := 27, pos := t3, after := #[{ on := 0, ground := Ground.data }, { on := 2, ground := Ground.data }], guard := none },
  { dst := some 128, op := Op.move (Operand.tmp 1), type := 23, pos := t4, after := #[], guard := none },
  { dst := some 129, op := Op.fieldAddr 50 (Operand.tmp 13) 0, type := 0, pos := t5, after := #[], guard := none },
  { dst := some 130, op := Op.load 3 (Operand.tmp 129), type := 3, pos := t6, after := #[{ on := 5, ground := Ground.data }], guard := none },
  { dst := some 131, op := Op.call { callee := Callee.value (Operand.func 17), args := #[Operand.tmp 128, Operand.tmp 130], argTypes := #[23, 3] }, type := 27, pos := t7, after := #[{ on := 4, ground := Ground.data }, { on := 6, ground := Ground.data }, { on := 3, ground := Ground.chain }], guard := none },
  { dst := some 20, op := Op.alloc 27, type := 0, pos := t8, after := #[], guard := none },
  { dst := some 21, op := Op.alloc 27, type := 0, pos := t9, after := #[], guard := none },
  { dst := none, op := Op.store 27 (Operand.tmp 20) (Operand.tmp 127), type := 0, pos := t10, after := #[{ on := 8, ground := Ground.data }, { on := 3, ground := Ground.data }, { on := 7, ground := Ground.chain }, { on := 0, ground := Ground.phase }, { on := 1, ground := Ground.phase }, { on := 2, ground := Ground.phase }, { on := 3, ground := Ground.phase }, { on := 4, ground := Ground.textOnly Departure.lateStores }, { on := 5, ground := Ground.textOnly Departure.lateStores }, { on := 6, ground := Ground.textOnly Departure.lateStores }, { on := 7, ground := Ground.phase }, { on := 8, ground := Ground.phase }, { on := 9, ground := Ground.phase }], guard := none },
  { dst := none, op := Op.store 27 (Operand.tmp 21) (Operand.tmp 131), type := 0, pos := t11, after := #[{ on := 9, ground := Ground.data }, { on := 7, ground := Ground.data }, { on := 10, ground := Ground.chain }, { on := 0, ground := Ground.phase }, { on := 1, ground := Ground.phase }, { on := 2, ground := Ground.phase }, { on := 3, ground := Ground.phase }, { on := 4, ground := Ground.phase }, { on := 5, ground := Ground.phase }, { on := 6, ground := Ground.phase }, { on := 7, ground := Ground.phase }, { on := 8, ground := Ground.phase }, { on := 9, ground := Ground.phase }, { on := 10, ground := Ground.phase }], guard := none }]

def ds25 : List Nat := [124, 125, 126, 127, 128, 129, 130, 131, 20, 21]

/-- What operation k has left, once it has been carried out. -/
def F25 (g h x12 x13 p1 p2 : Nat) (sX sY : Bs) (B k : Nat) (a : Act) (w : World) : Prop :=
  (k = 0 → a.eval (.tmp 124) = .pointer (some ⟨g, 0, none⟩)) ∧ (k = 1 → a.eval (.tmp 125) = .pointer (some ⟨x12, 0, none⟩)) ∧ (k = 2 → a.eval (.tmp 126) = .int .i64 ((p1 : Int) / 2)) ∧ (k = 3 → a.eval (.tmp 127) = setV sX) ∧
  (k = 4 → a.eval (.tmp 128) = .pointer (some ⟨h, 0, none⟩)) ∧ (k = 5 → a.eval (.tmp 129) = .pointer (some ⟨x13, 0, none⟩)) ∧ (k = 6 → a.eval (.tmp 130) = .int .i64 ((p2 : Int) / 2)) ∧ (k = 7 → a.eval (.tmp 131) = setV sY) ∧
  (k = 8 → ∃ c u0 u1 u2 u3, a.eval (.tmp 20) = .pointer (some ⟨c, 0, none⟩) ∧ B ≤ c ∧ w.heap[c]? = some (.cells #[u0, u1, u2, u3] 27 (0, 0))) ∧
  (k = 9 → ∃ c u0 u1 u2 u3, a.eval (.tmp 21) = .pointer (some ⟨c, 0, none⟩) ∧ B ≤ c ∧ w.heap[c]? = some (.cells #[u0, u1, u2, u3] 27 (0, 0))) ∧
  (k = 10 → ∃ c, a.eval (.tmp 20) = .pointer (some ⟨c, 0, none⟩) ∧ w.heap[c]? = some (.cells #[.int .u64 sX.w0, .int .u64 sX.w1, .int .u64 0, .int .u64 0] 27 (0, 0))) ∧
  (k = 11 → ∃ c, a.eval (.tmp 21) = .pointer (some ⟨c, 0, none⟩) ∧ w.heap[c]? = some (.cells #[.int .u64 sY.w0, .int .u64 sY.w1, .int .u64 0, .int .u64 0] 27 (0, 0)))

def slot25 : Nat → Nat
  | 0 => 124 | 1 => 125 | 2 => 126 | 3 => 127 | 4 => 128 | 5 => 129 | 6 => 130 | 7 => 131 | 8 => 20 | 9 => 21 | 10 => 20 | 11 => 21 | _ => 0

section
variable {g h x12 x13 p1 p2 : Nat} {sX sY : Bs} {B : Nat} {k : Nat} {a a' : Act} {w w' : World}

theorem F25.keep (hf : F25 g h x12 x13 p1 p2 sX sY B k a w) (he : a'.eval (.tmp (slot25 k)) = a.eval (.tmp (slot25 k))) (hb : ∀ c o, a.eval (.tmp (slot25 k)) = .pointer (some ⟨c, 0, none⟩) → w.heap[c]? = some o → w'.heap[c]? = some o) :
    F25 g h x12 x13 p1 p2 sX sY B k a' w' := by
  obtain ⟨f0, f1, f2, f3, f4, f5, f6, f7, f8, f9, f10, f11⟩ := hf
  refine ⟨?_, ?_, ?_, ?_, ?_, ?_, ?_, ?_, ?_, ?_, ?_, ?_⟩
  · rintro rfl; exact he.trans (f0 rfl)
  · rintro rfl; exact he.trans (f1 rfl)
  · rintro rfl; exact he.trans (f2 rfl)
  · rintro rfl; exact he.trans (f3 rfl)
  · rintro rfl; exact he.trans (f4 rfl)
  · rintro rfl; exact he.trans (f5 rfl)
  · rintro rfl; exact he.trans (f6 rfl)
  · rintro rfl; exact he.trans (f7 rfl)
  · rintro rfl; obtain ⟨c, u0, u1, u2, u3, e, hB, hc⟩ := f8 rfl; exact ⟨c, u0, u1, u2, u3, he.trans e, hB, hb c _ e hc⟩
  · rintro rfl; obtain ⟨c, u0, u1, u2, u3, e, hB, hc⟩ := f9 rfl; exact ⟨c, u0, u1, u2, u3, he.trans e, hB, hb c _ e hc⟩
  · rintro rfl; obtain ⟨c, e, hc⟩ := f10 rfl; exact ⟨c, he.trans e, hb c _ e hc⟩
  · rintro rfl; obtain ⟨c, e, hc⟩ := f11 rfl; exact ⟨c, he.trans e, hb c _ e hc⟩

end

/-- The invariant over the region. -/
structure J25 (a0 : Act) (w8 : World) (g h x12 x13 p1 p2 : Nat) (sX sY : Bs) (L : Array Bool) (a : Act) (w : World) : Prop where
  ag : Agr ds25 a0 a
  bl : Below w8.heap.size w8 w
  f : ∀ k, k < 12 → L.getD k false = true → F25 g h x12 x13 p1 p2 sX sY w8.heap.size k a w
  ne : L.getD 8 false = true → L.getD 9 false = true → a.eval (.tmp 20) ≠ a.eval (.tmp 21)
  st6 : L.getD 6 false = true → L.getD 5 false = true
  st7 : L.getD 7 false = true → L.getD 4 false = true ∧ L.getD 6 false = true
  st10 : L.getD 10 false = true → ∀ k, k < 10 → L.getD k false = true
  st11 : L.getD 11 false = true → ∀ k, k < 11 → L.getD k false = true

theorem getD_set_other {L : Array Bool} {i k : Nat} (h : k ≠ i) (d : Bool) : (L.setIfInBounds i true).getD k d = L.getD k d := by
  simp only [Array.getD_eq_getD_getElem?]
  rw [Array.getElem?_setIfInBounds_ne (fun e => h e.symm)]

section
variable {a0 a : Act} {w8 w w' : World} {g h x12 x13 p1 p2 : Nat} {sX sY : Bs} {L : Array Bool}

/-- An operation that lays its slot (no store). -/
theorem J25.next (hJ : J25 a0 w8 g h x12 x13 p1 p2 sX sY L a w) (hn : 132 ≤ a0.tmps.size) {i d : Nat} {v : Value} (hd : d = slot25 i) (hi : i < 10) (hL : L.getD i false = false) (hLs : L.size = 12) (h6 : i = 6 → L.getD 5 false = true) (h7 : i = 7 → L.getD 4 false = true ∧ L.getD 6 false = true)
    (hb : Below w.heap.size w w') (hf : F25 g h x12 x13 p1 p2 sX sY w8.heap.size i (a.put (some d) v) w')
    (hne : ∀ j, (i = 8 ∧ j = 9) ∨ (i = 9 ∧ j = 8) → L.getD j false = true → v ≠ a.eval (.tmp (slot25 j))) :
    J25 a0 w8 g h x12 x13 p1 p2 sX sY (L.setIfInBounds i true) (a.put (some d) v) w' := by
  have hds : d ∈ ds25 := by
    subst hd
    rcases (show i = 0 ∨ i = 1 ∨ i = 2 ∨ i = 3 ∨ i = 4 ∨ i = 5 ∨ i = 6 ∨ i = 7 ∨ i = 8 ∨ i = 9 from by omega) with rfl | rfl | rfl | rfl | rfl | rfl | rfl | rfl | rfl | rfl <;> decide
  have hdl : d < a.tmps.size := by
    rw [hJ.ag.n]
    subst hd
    rcases (show i = 0 ∨ i = 1 ∨ i = 2 ∨ i = 3 ∨ i = 4 ∨ i = 5 ∨ i = 6 ∨ i = 7 ∨ i = 8 ∨ i = 9 from by omega) with rfl | rfl | rfl | rfl | rfl | rfl | rfl | rfl | rfl | rfl <;> simp [slot25] <;> omega
  have hsl : ∀ k, k < 10 → k ≠ i → d ≠ slot25 k := by
    intro k hk hki
    subst hd
    rcases (show i = 0 ∨ i = 1 ∨ i = 2 ∨ i = 3 ∨ i = 4 ∨ i = 5 ∨ i = 6 ∨ i = 7 ∨ i = 8 ∨ i = 9 from by omega) with rfl | rfl | rfl | rfl | rfl | rfl | rfl | rfl | rfl | rfl <;>
    rcases (show k = 0 ∨ k = 1 ∨ k = 2 ∨ k = 3 ∨ k = 4 ∨ k = 5 ∨ k = 6 ∨ k = 7 ∨ k = 8 ∨ k = 9 from by omega) with rfl | rfl | rfl | rfl | rfl | rfl | rfl | rfl | rfl | rfl <;> first | decide | exact absurd rfl hki
  have hsz := hJ.bl.size
  have hL10 : L.getD 10 false = false := by
    cases e : L.getD 10 false with
    | false => rfl
    | true => rw [hJ.st10 e i hi] at hL; cases hL
  have hL11 : L.getD 11 false = false := by
    cases e : L.getD 11 false with
    | false => rfl
    | true => rw [hJ.st11 e i (by omega)] at hL; cases hL
  have hset : ∀ k, L.getD k false = true → (L.setIfInBounds i true).getD k false = true := by
    intro k hk
    by_cases e : k = i
    · subst e; rw [hL] at hk; cases hk
    · rw [getD_set_other e]; exact hk
  refine ⟨hJ.ag.put hds v, hJ.bl.trans (hb.mono hsz), ?_, ?_, ?_, ?_, ?_, ?_⟩
  · intro k hk hLk
    by_cases hki : k = i
    · subst hki; exact hf
    · rw [getD_set_other hki] at hLk
      have hk10 : k < 10 := by
        rcases Nat.lt_or_ge k 10 with h | h
        · exact h
        · rcases (show k = 10 ∨ k = 11 from by omega) with rfl | rfl
          · rw [hL10] at hLk; cases hLk
          · rw [hL11] at hLk; cases hLk
      refine (hJ.f k hk hLk).keep (eval_ne (hsl k hk10 hki) v) ?_
      intro c o _ hc
      exact (hb.block c (lt_of_block hc)).trans hc
  · intro h8 h9
    by_cases e8 : i = 8
    · subst e8
      rw [getD_set_other (by omega)] at h9
      have := hne 9 (.inl ⟨rfl, rfl⟩) h9
      have hd' : d = 20 := hd
      subst hd'
      rw [eval_same hdl, eval_ne (by omega)]
      exact this
    · rw [getD_set_other (fun e => e8 e.symm)] at h8
      by_cases e9 : i = 9
      · subst e9
        have := hne 8 (.inr ⟨rfl, rfl⟩) h8
        have hd' : d = 21 := hd
        subst hd'
        rw [eval_same hdl, eval_ne (by omega)]
        exact Ne.symm this
      · rw [getD_set_other (fun e => e9 e.symm)] at h9
        rw [eval_ne (show d ≠ 20 from hsl 8 (by omega) (fun e => e8 e.symm)), eval_ne (show d ≠ 21 from hsl 9 (by omega) (fun e => e9 e.symm))]
        exact hJ.ne h8 h9
  · intro h
    by_cases e : i = 6
    · exact hset 5 (h6 e)
    · rw [getD_set_other (fun e' => e e'.symm)] at h
      exact hset 5 (hJ.st6 h)
  · intro h
    by_cases e : i = 7
    · exact ⟨hset 4 (h7 e).1, hset 6 (h7 e).2⟩
    · rw [getD_set_other (fun e' => e e'.symm)] at h
      exact ⟨hset 4 (hJ.st7 h).1, hset 6 (hJ.st7 h).2⟩
  · intro h10
    rw [getD_set_other (by omega), hL10] at h10
    cases h10
  · intro h11
    rw [getD_set_other (by omega), hL11] at h11
    cases h11

theorem set4 {w : World} {c : Nat} {u0 u1 u2 u3 : Value} (hb : w.heap[c]? = some (.cells #[u0, u1, u2, u3] 27 (0, 0))) (v0 v1 v2 v3 : Value) :
    ((((w.setCell ⟨c, 0, none⟩ v0).setCell ⟨c, 1, none⟩ v1).setCell ⟨c, 2, none⟩ v2).setCell ⟨c, 3, none⟩ v3).heap[c]? = some (.cells #[v0, v1, v2, v3] 27 (0, 0)) :=
  setCell_block (setCell_block (setCell_block (setCell_block hb v0) v1) v2) v3

theorem set4_other {w : World} {c k : Nat} (hk : k ≠ c) (v0 v1 v2 v3 : Value) :
    ((((w.setCell ⟨c, 0, none⟩ v0).setCell ⟨c, 1, none⟩ v1).setCell ⟨c, 2, none⟩ v2).setCell ⟨c, 3, none⟩ v3).heap[k]? = w.heap[k]? := by
  rw [Below.heap_setCell _ ⟨c, 3, none⟩ _ k hk, Below.heap_setCell _ ⟨c, 2, none⟩ _ k hk, Below.heap_setCell _ ⟨c, 1, none⟩ _ k hk, Below.heap_setCell _ ⟨c, 0, none⟩ _ k hk]

/-- The two stores. -/
theorem J25.store (hJ : J25 a0 w8 g h x12 x13 p1 p2 sX sY L a w) {i c : Nat} {v0 v1 v2 v3 : Value} (hi : i = 10 ∨ i = 11) (hall : ∀ k, k < 10 → L.getD k false = true) (hLi : L.getD i false = false)
    (hc : a.eval (.tmp (slot25 i)) = .pointer (some ⟨c, 0, none⟩)) (hcB : w8.heap.size ≤ c) (hL11 : i = 10 → L.getD 11 false = false) (h10 : i = 11 → L.getD 10 false = true) {u0 u1 u2 u3 : Value} (hb : w.heap[c]? = some (.cells #[u0, u1, u2, u3] 27 (0, 0)))
    (hf : F25 g h x12 x13 p1 p2 sX sY w8.heap.size i a ((((w.setCell ⟨c, 0, none⟩ v0).setCell ⟨c, 1, none⟩ v1).setCell ⟨c, 2, none⟩ v2).setCell ⟨c, 3, none⟩ v3)) :
    J25 a0 w8 g h x12 x13 p1 p2 sX sY (L.setIfInBounds i true) a ((((w.setCell ⟨c, 0, none⟩ v0).setCell ⟨c, 1, none⟩ v1).setCell ⟨c, 2, none⟩ v2).setCell ⟨c, 3, none⟩ v3) := by
  have hset : ∀ k, L.getD k false = true → (L.setIfInBounds i true).getD k false = true := by
    intro k hk
    by_cases e : k = i
    · subst e; rw [hLi] at hk; cases hk
    · rw [getD_set_other e]; exact hk
  have hne := hJ.ne (hall 8 (by omega)) (hall 9 (by omega))
  refine ⟨hJ.ag, (((hJ.bl.setCell hcB _).setCell hcB _).setCell hcB _).setCell hcB _, ?_, fun _ _ => hne, ?_, ?_, ?_, ?_⟩
  · intro k hk hLk
    by_cases hki : k = i
    · subst hki; exact hf
    · rw [getD_set_other hki] at hLk
      have hfk := hJ.f k hk hLk
      by_cases hs : a.eval (.tmp (slot25 k)) = .pointer (some ⟨c, 0, none⟩)
      · -- the same block: only its own variable's operation, whose fact asks four cells alone
        have hk' : (k = 8 ∧ i = 10) ∨ (k = 9 ∧ i = 11) ∨ (k < 8) := by
          rcases hi with rfl | rfl
          · rcases (show k < 8 ∨ k = 8 ∨ k = 9 ∨ k = 11 from by omega) with h | rfl | rfl | rfl
            · exact .inr (.inr h)
            · exact .inl ⟨rfl, rfl⟩
            · exact absurd (hc.trans hs.symm) hne
            · rw [hL11 rfl] at hLk; cases hLk
          · rcases (show k < 8 ∨ k = 8 ∨ k = 9 ∨ k = 10 from by omega) with h | rfl | rfl | rfl
            · exact .inr (.inr h)
            · exact absurd (hs.trans hc.symm) hne
            · exact .inr (.inl ⟨rfl, rfl⟩)
            · exact absurd (hs.trans hc.symm) hne
        obtain ⟨f0, f1, f2, f3, f4, f5, f6, f7, f8, f9, f10, f11⟩ := hfk
        refine ⟨f0, f1, f2, f3, f4, f5, f6, f7, ?_, ?_, ?_, ?_⟩
        · rintro rfl; exact ⟨c, v0, v1, v2, v3, hs, hcB, set4 hb v0 v1 v2 v3⟩
        · rintro rfl; exact ⟨c, v0, v1, v2, v3, hs, hcB, set4 hb v0 v1 v2 v3⟩
        · intro e10; exfalso; rcases hk' with ⟨e, _⟩ | ⟨e, _⟩ | e <;> omega
        · intro e11; exfalso; rcases hk' with ⟨e, _⟩ | ⟨e, _⟩ | e <;> omega
      · refine hfk.keep rfl ?_
        intro c' o e' hc'
        rw [set4_other (fun e => by subst e; exact hs e')]
        exact hc'
  · intro h; rw [getD_set_other (by omega)] at h; exact hset 5 (hJ.st6 h)
  · intro h; rw [getD_set_other (by omega)] at h; exact ⟨hset 4 (hJ.st7 h).1, hset 6 (hJ.st7 h).2⟩
  · intro _ k hk; exact hset k (hall k hk)
  · intro h11 k hk
    rcases hi with rfl | rfl
    · rw [getD_set_other (by omega), hL11 rfl] at h11; cases h11
    · rcases (show k < 10 ∨ k = 10 from by omega) with h | rfl
      · exact hset k (hall k h)
      · exact hset 10 (h10 rfl)

end

theorem LoopR.next {w wr : World} {bb Pb Sv Pv S Bk base : Nat} {M N : Mach} {D pend pend2 : List Nd} {p : Nd} {bud bud2 : Int} {x12 x13 : Nat} {aX aY : Option Addr} {nX nY cX cY : Nat} {xsX xsY : List Value}
    (hD : Srch M N D (pend ++ [p])) (hf : ¬ fin M N p) (hM : Mid w wr bb Pb Sv Pv S Bk base M N (D ++ [p]) pend2 bud2 x12 x13 p.1 p.2 (.slice aX nX cX) (.slice aY nY cY) nX nY xsX xsY)
    (hp : pend2 = pushes (D ++ [p]) pend (succs M N p)) (hb : bud2 = bud - ((succs M N p).length : Int)) (hb1 : bud ≤ 1073741823) (hb2 : 1073741823 - 3 * (D.length : Int) ≤ bud) :
    LoopR w wr bb Pb Sv Pv S Bk base M N (total M N - (D.length + 1)) (.slice aX nX cX) (.slice aY nY cY) := by
  have hs := succs_length M N p
  subst hp
  refine ⟨D ++ [p], _, bud2, aX, nX, cX, xsX, aY, nY, cY, xsY, hD.round hf, by simp, hM.os, by omega, by simp; omega, rfl, rfl, hM.rx, hM.ry, hM.ap⟩

theorem Mid.below {w wr w' : World} {bb Pb Sv Pv S Bk base : Nat} {M N : Mach} {D pend : List Nd} {bud : Int} {x12 x13 X Y : Nat} {vX vY : Value} {nX nY : Nat} {xsX xsY : List Value} (hl : Lay w.heap.size bb Pb Sv Pv S Bk base)
    (h : Mid w wr bb Pb Sv Pv S Bk base M N D pend bud x12 x13 X Y vX vY nX nY xsX xsY) (hb : Below wr.heap.size wr w') : Mid w w' bb Pb Sv Pv S Bk base M N D pend bud x12 x13 X Y vX vY nX nY xsX xsY := by
  have hg : wr.grownBy w' none := ⟨hb.os, hb.tape, hb.output, hb.size, fun k hk _ => hb.block k hk⟩
  exact ⟨h.os.grown hl hg (by simp), h.bx.keep (hb.block _ h.bx.lt), h.by_.keep (hb.block _ h.by_.lt), h.lx, h.ly, kept_other h.rx hg (.inl rfl), kept_other h.ry hg (.inl rfl), h.ap, h.nx, h.ny⟩

theorem both_nil {M N : Mach} {X Y : Nat} (h : (M.tk X && N.tk Y && meetB (M.set (X / 2)) (N.set (Y / 2))) = false) : both M N X Y = [] := by
  unfold both
  rw [if_neg]
  rintro ⟨h1, h2, h3⟩
  rw [h1, h2, h3] at h
  cases h

theorem both_one {M N : Mach} {X Y : Nat} (h1 : M.tk X = true) (h2 : N.tk Y = true) (h3 : meetB (M.set (X / 2)) (N.set (Y / 2)) = true) : both M N X Y = [(M.taken (X / 2), N.taken (Y / 2))] := by
  unfold both
  rw [if_pos ⟨h1, h2, h3⟩]

theorem set_bd {M : Mach} (h : M.Ok) {i : Nat} (hi : i < M.n) : (M.set i).w0 < 18446744073709551616 ∧ (M.set i).w1 < 18446744073709551616 := by
  unfold Mach.set
  split
  · rename_i h0
    rcases h.by_ i hi h0 with hb | hb | hb | hb <;> rw [hb] <;> decide
  · rename_i h0
    exact h.cls _ (h.arg i hi h0)

theorem getD_tf {L : Array Bool} {i n : Nat} (hs : L.size = n) (hi : i < n) (h : L.getD i true = false) : L.getD i false = false := by
  simp [Array.getD, hs, hi] at h ⊢
  exact h

set_option maxHeartbeats 1000000 in
/-- THE REGION: behind it the two variables hold the two sets, whatever the order. -/
theorem region25 {t0 t1 t2 t3 t4 t5 t6 t7 t8 t9 t10 t11 : String} (a0 : Act) (w8 : World) (Q : Exit → Act → World → Prop) (W0 : Nat) (bb g h x12 x13 p1 p2 : Nat) (M N : Mach) (so co so' co' : Option Addr) (sc cc sc' cc' : Nat) (hM : M.Ok) (hN : N.Ok)
    (hg : GlobAt w8 W0 bb g M so co sc cc) (hh : GlobAt w8 W0 bb h N so' co' sc' cc') (hW : W0 ≤ w8.heap.size) (hn : 132 ≤ a0.tmps.size)
    (e0 : a0.eval (.tmp 0) = .pointer (some ⟨g, 0, none⟩)) (e1 : a0.eval (.tmp 1) = .pointer (some ⟨h, 0, none⟩)) (e12 : a0.eval (.tmp 12) = .pointer (some ⟨x12, 0, none⟩)) (e13 : a0.eval (.tmp 13) = .pointer (some ⟨x13, 0, none⟩))
    (b12 : Box w8 x12 p1) (b13 : Box w8 x13 p2) (h1 : p1 / 2 < M.n) (h2 : p2 / 2 < N.n)
    (hQ : ∀ a w c d, Agr ds25 a0 a → Below w8.heap.size w8 w → a.eval (.tmp 20) = .pointer (some ⟨c, 0, none⟩) → a.eval (.tmp 21) = .pointer (some ⟨d, 0, none⟩) → SetAt w c (M.set (p1 / 2)) → SetAt w d (N.set (p2 / 2)) → Q .normal a w) :
    (Code.region 25 (ops25 t0 t1 t2 t3 t4 t5 t6 t7 t8 t9 t10 t11).toArray true).wp Yba.prog Q a0 w8 := by
  refine wp_region_inv (J := J25 a0 w8 g h x12 x13 p1 p2 (M.set (p1 / 2)) (N.set (p2 / 2))) (by kernel_rfl) ?_ ?_ ?_ ?_
  · intro i o ho
    have hi : i < 12 := by have := (Array.getElem?_eq_some_iff.1 ho).1; simpa using this
    rcases (show i = 0 ∨ i = 1 ∨ i = 2 ∨ i = 3 ∨ i = 4 ∨ i = 5 ∨ i = 6 ∨ i = 7 ∨ i = 8 ∨ i = 9 ∨ i = 10 ∨ i = 11 from by omega) with rfl | rfl | rfl | rfl | rfl | rfl | rfl | rfl | rfl | rfl | rfl | rfl <;> simp at ho <;> subst ho <;> simp
  · refine ⟨Agr.refl _ _, (Below.refl _ _).drew, ?_, ?_, ?_, ?_, ?_, ?_⟩ <;> simp [Array.getD] <;> intros <;> omega
  · intro L a w i o hs ho hL hdep hJ
    have hs12 : L.size = 12 := by simpa using hs
    have hi : i < 12 := by have := (Array.getElem?_eq_some_iff.1 ho).1; simpa using this
    have hLf := getD_tf hs12 hi hL
    have hbox : ∀ c, c < w8.heap.size → w.heap[c]? = w8.heap[c]? := fun c hc => hJ.bl.block c hc
    have hsz := hJ.bl.size
    have g8 : GlobAt w W0 bb g M so co sc cc := hg.keep fun k hk _ => hbox k (by omega)
    have h8 : GlobAt w W0 bb h N so' co' sc' cc' := hh.keep fun k hk _ => hbox k (by omega)
    have q12 := (b12.keep (hbox x12 b12.lt)).cells.1
    have q13 := (b13.keep (hbox x13 b13.lt)).cells.1
    rcases (show i = 0 ∨ i = 1 ∨ i = 2 ∨ i = 3 ∨ i = 4 ∨ i = 5 ∨ i = 6 ∨ i = 7 ∨ i = 8 ∨ i = 9 ∨ i = 10 ∨ i = 11 from by omega) with rfl | rfl | rfl | rfl | rfl | rfl | rfl | rfl | rfl | rfl | rfl | rfl
    · simp at ho
      subst ho
      rw [if_pos (by simp [Region.wanted])]
      have e : a.eval (.tmp 0) = .pointer (some ⟨g, 0, none⟩) := (hJ.ag.eval (by decide)).trans e0
      have e' : a.tmps[0]?.getD undef = .pointer (some ⟨g, 0, none⟩) := by simpa only [Act.eval, Array.getD_eq_getD_getElem?] using e
      have hr : (execOp a.eval { dst := some 124, op := Op.move (Operand.tmp 0), type := 23, pos := t0, after := #[], guard := none }).run Yba.prog w = .ok (.value (.pointer (some ⟨g, 0, none⟩))) w := by simp [execOp, e]
      unfold Oper.wp
      rw [hr]
      exact hJ.next hn rfl (by omega) hLf hs12 (by omega) (by omega) (Below.refl _ _) ⟨(fun _ => eval_same (by rw [hJ.ag.n]; omega) _), (fun h => by omega), (fun h => by omega), (fun h => by omega), (fun h => by omega), (fun h => by omega), (fun h => by omega), (fun h => by omega), (fun h => by omega), (fun h => by omega), (fun h => by omega), (fun h => by omega)⟩ (by omega)
    · simp at ho
      subst ho
      rw [if_pos (by simp [Region.wanted])]
      have e : a.eval (.tmp 12) = .pointer (some ⟨x12, 0, none⟩) := (hJ.ag.eval (by decide)).trans e12
      have e' : a.tmps[12]?.getD undef = .pointer (some ⟨x12, 0, none⟩) := by simpa only [Act.eval, Array.getD_eq_getD_getElem?] using e
      have hr : (execOp a.eval { dst := some 125, op := Op.fieldAddr 50 (Operand.tmp 12) 0, type := 0, pos := t1, after := #[], guard := none }).run Yba.prog w = .ok (.value (.pointer (some ⟨x12, 0, none⟩))) w := by simp [execOp, e', go_sem]
      unfold Oper.wp
      rw [hr]
      exact hJ.next hn rfl (by omega) hLf hs12 (by omega) (by omega) (Below.refl _ _) ⟨(fun h => by omega), (fun _ => eval_same (by rw [hJ.ag.n]; omega) _), (fun h => by omega), (fun h => by omega), (fun h => by omega), (fun h => by omega), (fun h => by omega), (fun h => by omega), (fun h => by omega), (fun h => by omega), (fun h => by omega), (fun h => by omega)⟩ (by omega)
    · simp at ho
      subst ho
      rw [if_pos (by simp [Region.wanted])]
      have hd := hdep { on := 1, ground := Ground.data } (by simp) rfl
      have e : a.eval (.tmp 125) = .pointer (some ⟨x12, 0, none⟩) := (hJ.f 1 (by omega) hd).2.1 rfl
      have e' : a.tmps[125]?.getD undef = .pointer (some ⟨x12, 0, none⟩) := by simpa only [Act.eval, Array.getD_eq_getD_getElem?] using e
      have hr : (execOp a.eval { dst := some 126, op := Op.load 3 (Operand.tmp 125), type := 3, pos := t2, after := #[{ on := 1, ground := Ground.data }], guard := none }).run Yba.prog w = .ok (.value (.int .i64 ((p1 : Int) / 2))) w := by simp [execOp, e', go_sem, q12]
      unfold Oper.wp
      rw [hr]
      exact hJ.next hn rfl (by omega) hLf hs12 (by omega) (by omega) (Below.refl _ _) ⟨(fun h => by omega), (fun h => by omega), (fun _ => eval_same (by rw [hJ.ag.n]; omega) _), (fun h => by omega), (fun h => by omega), (fun h => by omega), (fun h => by omega), (fun h => by omega), (fun h => by omega), (fun h => by omega), (fun h => by omega), (fun h => by omega)⟩ (by omega)
    · simp at ho
      subst ho
      rw [if_pos (by simp [Region.wanted])]
      have hd1 := hdep { on := 0, ground := Ground.data } (by simp) rfl
      have hd2 := hdep { on := 2, ground := Ground.data } (by simp) rfl
      have ea : a.eval (.tmp 124) = .pointer (some ⟨g, 0, none⟩) := (hJ.f 0 (by omega) hd1).1 rfl
      have ea' : a.tmps[124]?.getD undef = .pointer (some ⟨g, 0, none⟩) := by simpa only [Act.eval, Array.getD_eq_getD_getElem?] using ea
      have eb : a.eval (.tmp 126) = .int .i64 (((p1 / 2 : Nat)) : Int) := by rw [show (((p1 / 2 : Nat)) : Int) = (p1 : Int) / 2 from by omega]; exact (hJ.f 2 (by omega) hd2).2.2.1 rfl
      have eb' : a.tmps[126]?.getD undef = .int .i64 (((p1 / 2 : Nat)) : Int) := by simpa only [Act.eval, Array.getD_eq_getD_getElem?] using eb
      have hr : (execOp a.eval { dst := some 127, op := Op.call { callee := Callee.value (Operand.func 17), args := #[Operand.tmp 124, Operand.tmp 126], argTypes := #[23, 3] }, type := 27, pos := t3, after := #[{ on := 0, ground := Ground.data }, { on := 2, ground := Ground.data }], guard := none }).run Yba.prog w = .ok (.enter 17 #[.pointer (some ⟨g, 0, none⟩), .int .i64 (((p1 / 2 : Nat)) : Int)]) w := by simp [execOp, ea', eb', go_sem]
      unfold Oper.wp
      rw [hr]
      refine Calls.mono (takes_any w W0 bb g M so co sc cc g8 (by omega) hM (p1 / 2) h1) ?_
      rintro e w' ⟨rfl, x, rfl⟩
      exact hJ.next hn rfl (by omega) hLf hs12 (by omega) (by omega) (aft_below w x) ⟨(fun h => by omega), (fun h => by omega), (fun h => by omega), (fun _ => eval_same (by rw [hJ.ag.n]; omega) _), (fun h => by omega), (fun h => by omega), (fun h => by omega), (fun h => by omega), (fun h => by omega), (fun h => by omega), (fun h => by omega), (fun h => by omega)⟩ (by omega)
    · simp at ho
      subst ho
      rw [if_pos (by simp [Region.wanted])]
      have e : a.eval (.tmp 1) = .pointer (some ⟨h, 0, none⟩) := (hJ.ag.eval (by decide)).trans e1
      have e' : a.tmps[1]?.getD undef = .pointer (some ⟨h, 0, none⟩) := by simpa only [Act.eval, Array.getD_eq_getD_getElem?] using e
      have hr : (execOp a.eval { dst := some 128, op := Op.move (Operand.tmp 1), type := 23, pos := t4, after := #[], guard := none }).run Yba.prog w = .ok (.value (.pointer (some ⟨h, 0, none⟩))) w := by simp [execOp, e]
      unfold Oper.wp
      rw [hr]
      exact hJ.next hn rfl (by omega) hLf hs12 (by omega) (by omega) (Below.refl _ _) ⟨(fun h => by omega), (fun h => by omega), (fun h => by omega), (fun h => by omega), (fun _ => eval_same (by rw [hJ.ag.n]; omega) _), (fun h => by omega), (fun h => by omega), (fun h => by omega), (fun h => by omega), (fun h => by omega), (fun h => by omega), (fun h => by omega)⟩ (by omega)
    · simp at ho
      subst ho
      rw [if_pos (by simp [Region.wanted])]
      have e : a.eval (.tmp 13) = .pointer (some ⟨x13, 0, none⟩) := (hJ.ag.eval (by decide)).trans e13
      have e' : a.tmps[13]?.getD undef = .pointer (some ⟨x13, 0, none⟩) := by simpa only [Act.eval, Array.getD_eq_getD_getElem?] using e
      have hr : (execOp a.eval { dst := some 129, op := Op.fieldAddr 50 (Operand.tmp 13) 0, type := 0, pos := t5, after := #[], guard := none }).run Yba.prog w = .ok (.value (.pointer (some ⟨x13, 0, none⟩))) w := by simp [execOp, e', go_sem]
      unfold Oper.wp
      rw [hr]
      exact hJ.next hn rfl (by omega) hLf hs12 (by omega) (by omega) (Below.refl _ _) ⟨(fun h => by omega), (fun h => by omega), (fun h => by omega), (fun h => by omega), (fun h => by omega), (fun _ => eval_same (by rw [hJ.ag.n]; omega) _), (fun h => by omega), (fun h => by omega), (fun h => by omega), (fun h => by omega), (fun h => by omega), (fun h => by omega)⟩ (by omega)
    · simp at ho
      subst ho
      rw [if_pos (by simp [Region.wanted])]
      have hd := hdep { on := 5, ground := Ground.data } (by simp) rfl
      have e : a.eval (.tmp 129) = .pointer (some ⟨x13, 0, none⟩) := (hJ.f 5 (by omega) hd).2.2.2.2.2.1 rfl
      have e' : a.tmps[129]?.getD undef = .pointer (some ⟨x13, 0, none⟩) := by simpa only [Act.eval, Array.getD_eq_getD_getElem?] using e
      have hr : (execOp a.eval { dst := some 130, op := Op.load 3 (Operand.tmp 129), type := 3, pos := t6, after := #[{ on := 5, ground := Ground.data }], guard := none }).run Yba.prog w = .ok (.value (.int .i64 ((p2 : Int) / 2))) w := by simp [execOp, e', go_sem, q13]
      unfold Oper.wp
      rw [hr]
      exact hJ.next hn rfl (by omega) hLf hs12 (fun _ => hd) (by omega) (Below.refl _ _) ⟨(fun h => by omega), (fun h => by omega), (fun h => by omega), (fun h => by omega), (fun h => by omega), (fun h => by omega), (fun _ => eval_same (by rw [hJ.ag.n]; omega) _), (fun h => by omega), (fun h => by omega), (fun h => by omega), (fun h => by omega), (fun h => by omega)⟩ (by omega)
    · simp at ho
      subst ho
      rw [if_pos (by simp [Region.wanted])]
      have hd1 := hdep { on := 4, ground := Ground.data } (by simp) rfl
      have hd2 := hdep { on := 6, ground := Ground.data } (by simp) rfl
      have ea : a.eval (.tmp 128) = .pointer (some ⟨h, 0, none⟩) := (hJ.f 4 (by omega) hd1).2.2.2.2.1 rfl
      have ea' : a.tmps[128]?.getD undef = .pointer (some ⟨h, 0, none⟩) := by simpa only [Act.eval, Array.getD_eq_getD_getElem?] using ea
      have eb : a.eval (.tmp 130) = .int .i64 (((p2 / 2 : Nat)) : Int) := by rw [show (((p2 / 2 : Nat)) : Int) = (p2 : Int) / 2 from by omega]; exact (hJ.f 6 (by omega) hd2).2.2.2.2.2.2.1 rfl
      have eb' : a.tmps[130]?.getD undef = .int .i64 (((p2 / 2 : Nat)) : Int) := by simpa only [Act.eval, Array.getD_eq_getD_getElem?] using eb
      have hr : (execOp a.eval { dst := some 131, op := Op.call { callee := Callee.value (Operand.func 17), args := #[Operand.tmp 128, Operand.tmp 130], argTypes := #[23, 3] }, type := 27, pos := t7, after := #[{ on := 4, ground := Ground.data }, { on := 6, ground := Ground.data }, { on := 3, ground := Ground.chain }], guard := none }).run Yba.prog w = .ok (.enter 17 #[.pointer (some ⟨h, 0, none⟩), .int .i64 (((p2 / 2 : Nat)) : Int)]) w := by simp [execOp, ea', eb', go_sem]
      unfold Oper.wp
      rw [hr]
      refine Calls.mono (takes_any w W0 bb h N so' co' sc' cc' h8 (by omega) hN (p2 / 2) h2) ?_
      rintro e w' ⟨rfl, x, rfl⟩
      exact hJ.next hn rfl (by omega) hLf hs12 (by omega) (fun _ => ⟨hd1, hd2⟩) (aft_below w x) ⟨(fun h => by omega), (fun h => by omega), (fun h => by omega), (fun h => by omega), (fun h => by omega), (fun h => by omega), (fun h => by omega), (fun _ => eval_same (by rw [hJ.ag.n]; omega) _), (fun h => by omega), (fun h => by omega), (fun h => by omega), (fun h => by omega)⟩ (by omega)
    · simp at ho
      subst ho
      rw [if_pos (by simp [Region.wanted])]
      have hr : (execOp a.eval { dst := some 20, op := Op.alloc 27, type := 0, pos := t8, after := #[], guard := none }).run Yba.prog w = .ok (.value (.pointer (some ⟨w.heap.size, 0, none⟩))) (w.alloc (.cells #[.int .u64 0, .int .u64 0, .int .u64 0, .int .u64 0] 27)) := by simp [execOp, go_sem]
      unfold Oper.wp
      rw [hr]
      refine hJ.next hn rfl (by omega) hLf hs12 (by omega) (by omega) ((Below.refl _ _).alloc (Nat.le_refl _) _) ⟨(fun h => by omega), (fun h => by omega), (fun h => by omega), (fun h => by omega), (fun h => by omega), (fun h => by omega), (fun h => by omega), (fun h => by omega), (fun _ => ⟨w.heap.size, _, _, _, _, eval_same (by rw [hJ.ag.n]; omega) _, hsz, heap_alloc_new w _⟩), (fun h => by omega), (fun h => by omega), (fun h => by omega)⟩ ?_
      intro j hj hLj
      obtain rfl : j = 9 := by omega
      obtain ⟨c, u0, u1, u2, u3, ec, _, hc⟩ := (hJ.f 9 (by omega) hLj).2.2.2.2.2.2.2.2.2.1 rfl
      have hlt := lt_of_block hc
      intro e
      have e' : Value.pointer (some ⟨w.heap.size, 0, none⟩) = .pointer (some ⟨c, 0, none⟩) := e.trans ec
      have e3 := congrArg (fun v => match v with | Value.pointer (some a) => a.block | _ => 0) e'
      simp only at e3
      omega
    · simp at ho
      subst ho
      rw [if_pos (by simp [Region.wanted])]
      have hr : (execOp a.eval { dst := some 21, op := Op.alloc 27, type := 0, pos := t9, after := #[], guard := none }).run Yba.prog w = .ok (.value (.pointer (some ⟨w.heap.size, 0, none⟩))) (w.alloc (.cells #[.int .u64 0, .int .u64 0, .int .u64 0, .int .u64 0] 27)) := by simp [execOp, go_sem]
      unfold Oper.wp
      rw [hr]
      refine hJ.next hn rfl (by omega) hLf hs12 (by omega) (by omega) ((Below.refl _ _).alloc (Nat.le_refl _) _) ⟨(fun h => by omega), (fun h => by omega), (fun h => by omega), (fun h => by omega), (fun h => by omega), (fun h => by omega), (fun h => by omega), (fun h => by omega), (fun h => by omega), (fun _ => ⟨w.heap.size, _, _, _, _, eval_same (by rw [hJ.ag.n]; omega) _, hsz, heap_alloc_new w _⟩), (fun h => by omega), (fun h => by omega)⟩ ?_
      intro j hj hLj
      obtain rfl : j = 8 := by omega
      obtain ⟨c, u0, u1, u2, u3, ec, _, hc⟩ := (hJ.f 8 (by omega) hLj).2.2.2.2.2.2.2.2.1 rfl
      have hlt := lt_of_block hc
      intro e
      have e' : Value.pointer (some ⟨w.heap.size, 0, none⟩) = .pointer (some ⟨c, 0, none⟩) := e.trans ec
      have e3 := congrArg (fun v => match v with | Value.pointer (some a) => a.block | _ => 0) e'
      simp only at e3
      omega
    · simp at ho
      subst ho
      rw [if_pos (by simp [Region.wanted])]
      have hall : ∀ k, k < 10 → L.getD k false = true := by
        have k7 := hdep { on := 7, ground := Ground.chain } (by simp) rfl
        have k6 := (hJ.st7 k7).2
        intro k hk
        rcases (show k = 0 ∨ k = 1 ∨ k = 2 ∨ k = 3 ∨ k = 4 ∨ k = 5 ∨ k = 6 ∨ k = 7 ∨ k = 8 ∨ k = 9 from by omega) with rfl | rfl | rfl | rfl | rfl | rfl | rfl | rfl | rfl | rfl
        · exact hdep { on := 0, ground := Ground.phase } (by simp) rfl
        · exact hdep { on := 1, ground := Ground.phase } (by simp) rfl
        · exact hdep { on := 2, ground := Ground.phase } (by simp) rfl
        · exact hdep { on := 3, ground := Ground.phase } (by simp) rfl
        · exact (hJ.st7 k7).1
        · exact hJ.st6 k6
        · exact k6
        · exact k7
        · exact hdep { on := 8, ground := Ground.phase } (by simp) rfl
        · exact hdep { on := 9, ground := Ground.phase } (by simp) rfl
      obtain ⟨c, u0, u1, u2, u3, ec, hcB, hc⟩ := (hJ.f 8 (by omega) (hall 8 (by omega))).2.2.2.2.2.2.2.2.1 rfl
      have ec' : a.tmps[20]?.getD undef = .pointer (some ⟨c, 0, none⟩) := by simpa only [Act.eval, Array.getD_eq_getD_getElem?] using ec
      have ev : a.eval (.tmp 127) = setV (M.set (p1 / 2)) := (hJ.f 3 (by omega) (hall 3 (by omega))).2.2.2.1 rfl
      have ev' : a.tmps[127]?.getD undef = setV (M.set (p1 / 2)) := by simpa only [Act.eval, Array.getD_eq_getD_getElem?] using ev
      have k0 : w.cell? ⟨c, 0, none⟩ = some u0 := by simp [World.cell?, hc]
      have k1 : w.cell? ⟨c, 1, none⟩ = some u1 := by simp [World.cell?, hc]
      have k2 : w.cell? ⟨c, 2, none⟩ = some u2 := by simp [World.cell?, hc]
      have k3 : w.cell? ⟨c, 3, none⟩ = some u3 := by simp [World.cell?, hc]
      have fz : ∀ o, w.frozen? ⟨c, o, none⟩ = false := by intro o; simp [World.frozen?, hc]
      have hL11 : L.getD 11 false = false := by
        cases h11 : L.getD 11 false with
        | false => rfl
        | true => rw [hJ.st11 h11 10 (by omega)] at hLf; cases hLf
      unfold Oper.wp
      have hr : (execOp a.eval { dst := none, op := Op.store 27 (Operand.tmp 20) (Operand.tmp 127), type := 0, pos := t10, after := #[{ on := 8, ground := Ground.data }, { on := 3, ground := Ground.data }, { on := 7, ground := Ground.chain }, { on := 0, ground := Ground.phase }, { on := 1, ground := Ground.phase }, { on := 2, ground := Ground.phase }, { on := 3, ground := Ground.phase }, { on := 4, ground := Ground.textOnly Departure.lateStores }, { on := 5, ground := Ground.textOnly Departure.lateStores }, { on := 6, ground := Ground.textOnly Departure.lateStores }, { on := 7, ground := Ground.phase }, { on := 8, ground := Ground.phase }, { on := 9, ground := Ground.phase }], guard := none }).run Yba.prog w = .ok .skip ((((w.setCell ⟨c, 0, none⟩ (.int .u64 (M.set (p1 / 2)).w0)).setCell ⟨c, 1, none⟩ (.int .u64 (M.set (p1 / 2)).w1)).setCell ⟨c, 2, none⟩ (.int .u64 0)).setCell ⟨c, 3, none⟩ (.int .u64 0)) := by
        simp [execOp, ec', ev', setV, go_sem, k0, k1, k2, k3, fz]
      rw [hr]
      exact hJ.store (.inl rfl) hall hLf ec hcB (fun _ => hL11) (by omega) hc ⟨(fun h => by omega), (fun h => by omega), (fun h => by omega), (fun h => by omega), (fun h => by omega), (fun h => by omega), (fun h => by omega), (fun h => by omega), (fun h => by omega), (fun h => by omega), (fun _ => ⟨c, ec, set4 hc _ _ _ _⟩), (fun h => by omega)⟩
    · simp at ho
      subst ho
      rw [if_pos (by simp [Region.wanted])]
      have hall : ∀ k, k < 10 → L.getD k false = true := by
        have k7 := hdep { on := 7, ground := Ground.data } (by simp) rfl
        have k6 := (hJ.st7 k7).2
        intro k hk
        rcases (show k = 0 ∨ k = 1 ∨ k = 2 ∨ k = 3 ∨ k = 4 ∨ k = 5 ∨ k = 6 ∨ k = 7 ∨ k = 8 ∨ k = 9 from by omega) with rfl | rfl | rfl | rfl | rfl | rfl | rfl | rfl | rfl | rfl
        · exact hdep { on := 0, ground := Ground.phase } (by simp) rfl
        · exact hdep { on := 1, ground := Ground.phase } (by simp) rfl
        · exact hdep { on := 2, ground := Ground.phase } (by simp) rfl
        · exact hdep { on := 3, ground := Ground.phase } (by simp) rfl
        · exact (hJ.st7 k7).1
        · exact hJ.st6 k6
        · exact k6
        · exact k7
        · exact hdep { on := 8, ground := Ground.phase } (by simp) rfl
        · exact hdep { on := 9, ground := Ground.phase } (by simp) rfl
      obtain ⟨c, u0, u1, u2, u3, ec, hcB, hc⟩ := (hJ.f 9 (by omega) (hall 9 (by omega))).2.2.2.2.2.2.2.2.2.1 rfl
      have ec' : a.tmps[21]?.getD undef = .pointer (some ⟨c, 0, none⟩) := by simpa only [Act.eval, Array.getD_eq_getD_getElem?] using ec
      have ev : a.eval (.tmp 131) = setV (N.set (p2 / 2)) := (hJ.f 7 (by omega) (hall 7 (by omega))).2.2.2.2.2.2.2.1 rfl
      have ev' : a.tmps[131]?.getD undef = setV (N.set (p2 / 2)) := by simpa only [Act.eval, Array.getD_eq_getD_getElem?] using ev
      have k0 : w.cell? ⟨c, 0, none⟩ = some u0 := by simp [World.cell?, hc]
      have k1 : w.cell? ⟨c, 1, none⟩ = some u1 := by simp [World.cell?, hc]
      have k2 : w.cell? ⟨c, 2, none⟩ = some u2 := by simp [World.cell?, hc]
      have k3 : w.cell? ⟨c, 3, none⟩ = some u3 := by simp [World.cell?, hc]
      have fz : ∀ o, w.frozen? ⟨c, o, none⟩ = false := by intro o; simp [World.frozen?, hc]
      unfold Oper.wp
      have hr : (execOp a.eval { dst := none, op := Op.store 27 (Operand.tmp 21) (Operand.tmp 131), type := 0, pos := t11, after := #[{ on := 9, ground := Ground.data }, { on := 7, ground := Ground.data }, { on := 10, ground := Ground.chain }, { on := 0, ground := Ground.phase }, { on := 1, ground := Ground.phase }, { on := 2, ground := Ground.phase }, { on := 3, ground := Ground.phase }, { on := 4, ground := Ground.phase }, { on := 5, ground := Ground.phase }, { on := 6, ground := Ground.phase }, { on := 7, ground := Ground.phase }, { on := 8, ground := Ground.phase }, { on := 9, ground := Ground.phase }, { on := 10, ground := Ground.phase }], guard := none }).run Yba.prog w = .ok .skip ((((w.setCell ⟨c, 0, none⟩ (.int .u64 (N.set (p2 / 2)).w0)).setCell ⟨c, 1, none⟩ (.int .u64 (N.set (p2 / 2)).w1)).setCell ⟨c, 2, none⟩ (.int .u64 0)).setCell ⟨c, 3, none⟩ (.int .u64 0)) := by
        simp [execOp, ec', ev', setV, go_sem, k0, k1, k2, k3, fz]
      rw [hr]
      exact hJ.store (.inr rfl) hall hLf ec hcB (by omega) (fun _ => hdep { on := 10, ground := Ground.chain } (by simp) rfl) hc ⟨(fun h => by omega), (fun h => by omega), (fun h => by omega), (fun h => by omega), (fun h => by omega), (fun h => by omega), (fun h => by omega), (fun h => by omega), (fun h => by omega), (fun h => by omega), (fun h => by omega), (fun _ => ⟨c, ec, set4 hc _ _ _ _⟩)⟩
  · intro L a w hs hall hJ
    have f10 := hJ.f 10 (by omega) (hall 10 (by simp))
    have f11 := hJ.f 11 (by omega) (hall 11 (by simp))
    obtain ⟨c, hc, hbc⟩ := f10.2.2.2.2.2.2.2.2.2.2.1 rfl
    obtain ⟨d, hd, hbd⟩ := f11.2.2.2.2.2.2.2.2.2.2.2 rfl
    exact hQ a w c d hJ.ag hJ.bl hc hd (by simp [SetAt, World.cell?, hbc]) (by simp [SetAt, World.cell?, hbd])

end Go.Proofs.Ybulkbeeu
