/- map[Type]Type at keys that are pointers. -/
import Derived.Test.YbulkbeboRows
import Derived.WalkKit
import Derived.LaidEqlPtr
import Derived.Stop.Asserts
namespace Go.Proofs.Ybulkbebo
open Go.RowKit
set_option linter.unusedSimpArgs false
set_option linter.unusedVariables false

/-- A key: a pointer of one of the four dynamic types. -/
structure Ky where
  t : Nat
  b : Nat

def Ky.ok (k : Ky) : Prop := k.t = 45 ∨ k.t = 53 ∨ k.t = 63 ∨ k.t = 72
def Ky.val (k : Ky) : Value := .iface k.t (.pointer (some ⟨k.b, 0, none⟩))
def Plain (w : World) (b : Nat) : Prop := ∃ cs t, w.heap[b]? = some (.cells cs t (0, 0))

theorem Yba.j45 : (Yba.prog.info? 45).map (·.comparable) = some true := by kernel_rfl
theorem Yba.j53 : (Yba.prog.info? 53).map (·.comparable) = some true := by kernel_rfl
theorem Yba.j63 : (Yba.prog.info? 63).map (·.comparable) = some true := by kernel_rfl
theorem Yba.j72 : (Yba.prog.info? 72).map (·.comparable) = some true := by kernel_rfl
theorem Yba.j51 : (Yba.prog.info? 51).map (fun i => i.size == 0) = some false := by kernel_rfl
theorem Yba.j56 : (Yba.prog.info? 56).map (fun i => i.size == 0) = some false := by kernel_rfl
theorem Yba.j65 : (Yba.prog.info? 65).map (fun i => i.size == 0) = some false := by kernel_rfl
theorem Yba.j74 : (Yba.prog.info? 74).map (fun i => i.size == 0) = some false := by kernel_rfl

theorem equalIn_same (w : World) (d : Nat) (tp te : TypeId) (b : Nat) (hp : Yba.prog.underlying tp = some (.pointer te)) (h1 : (Yba.prog.info? tp).map (·.comparable) = some true) (h2 : (Yba.prog.info? te).map (fun i => i.size == 0) = some false) :
    (Op.equalIn (d + 2) 49 (.iface tp (.pointer (some ⟨b, 0, none⟩))) (.iface tp (.pointer (some ⟨b, 0, none⟩)))).run Yba.prog w = .ok true w := by
  obtain ⟨i, hi, hc⟩ := Option.map_eq_some_iff.1 h1
  obtain ⟨j, hj, hs⟩ := Option.map_eq_some_iff.1 h2
  exact run_equalIn_iface_ptr_same w d ⟨b, 0, none⟩ Yba.underlying49 hp hi hc hj

theorem equalIn_other (w : World) (d : Nat) (tp te : TypeId) (b c : Nat) (hp : Yba.prog.underlying tp = some (.pointer te)) (h1 : (Yba.prog.info? tp).map (·.comparable) = some true) (h2 : (Yba.prog.info? te).map (fun i => i.size == 0) = some false)
    (hb : Plain w b) (hc : Plain w c) (hne : b ≠ c) :
    (Op.equalIn (d + 2) 49 (.iface tp (.pointer (some ⟨b, 0, none⟩))) (.iface tp (.pointer (some ⟨c, 0, none⟩)))).run Yba.prog w = .ok false w := by
  obtain ⟨i, hi, hcm⟩ := Option.map_eq_some_iff.1 h1
  obtain ⟨j, hj, hs⟩ := Option.map_eq_some_iff.1 h2
  obtain ⟨cs, ct, hb⟩ := hb
  obtain ⟨ds, dt, hc⟩ := hc
  exact run_equalIn_iface_ptr_other w d Yba.underlying49 hp hi hcm hj (by simpa using hs) (by simp [hne]) hb hc

theorem equalIn_ky (w : World) (d : Nat) (k l : Ky) (hk : k.ok) (hkb : Plain w k.b) (hlb : Plain w l.b) : (Op.equalIn (d + 2) 49 k.val l.val).run Yba.prog w = .ok (decide (k.t = l.t ∧ k.b = l.b)) w := by
  unfold Ky.val
  by_cases ht : k.t = l.t
  · obtain ⟨t, b⟩ := k
    obtain ⟨u, c⟩ := l
    simp only at ht hkb hlb ⊢
    subst ht
    by_cases hbc : b = c
    · subst hbc
      simp only [and_self, decide_true]
      rcases hk with h | h | h | h <;> simp only at h <;> subst h
      · exact equalIn_same w d 45 51 b Yba.underlying45 Yba.j45 Yba.j51
      · exact equalIn_same w d 53 56 b Yba.underlying53 Yba.j53 Yba.j56
      · exact equalIn_same w d 63 65 b Yba.underlying63 Yba.j63 Yba.j65
      · exact equalIn_same w d 72 74 b Yba.underlying72 Yba.j72 Yba.j74
    · have hd : decide (t = t ∧ b = c) = false := by simp [hbc]
      rw [hd]
      rcases hk with h | h | h | h <;> simp only at h <;> subst h
      · exact equalIn_other w d 45 51 b c Yba.underlying45 Yba.j45 Yba.j51 hkb hlb hbc
      · exact equalIn_other w d 53 56 b c Yba.underlying53 Yba.j53 Yba.j56 hkb hlb hbc
      · exact equalIn_other w d 63 65 b c Yba.underlying63 Yba.j63 Yba.j65 hkb hlb hbc
      · exact equalIn_other w d 72 74 b c Yba.underlying72 Yba.j72 Yba.j74 hkb hlb hbc
  · have hd : decide (k.t = l.t ∧ k.b = l.b) = false := by simp [ht]
    rw [hd]
    simp [Op.equalIn, run_underlying Yba.underlying49, ht]

theorem equal_ky (w : World) (k l : Ky) (hk : k.ok) (hkb : Plain w k.b) (hlb : Plain w l.b) : (Op.equal 49 k.val l.val).run Yba.prog w = .ok (decide (k.t = l.t ∧ k.b = l.b)) w :=
  equalIn_ky w 9998 k l hk hkb hlb

/-- What the map holds: keys and values, oldest first. -/
def lookD (k : Ky) : List (Ky × Value) → Option Value
  | [] => none
  | p :: D => if k.t = p.1.t ∧ k.b = p.1.b then some p.2 else lookD k D

def lookI (k : Ky) : List (Ky × Value) → Nat → Option (Nat × Value)
  | [], _ => none
  | p :: D, i => if k.t = p.1.t ∧ k.b = p.1.b then some (i, p.2) else lookI k D (i + 1)

theorem lookI_map (k : Ky) : ∀ (D : List (Ky × Value)) (i : Nat), (lookI k D i).map (·.2) = lookD k D
  | [], _ => rfl
  | p :: D, i => by
    unfold lookI lookD
    split
    · rfl
    · exact lookI_map k D (i + 1)

def Holds (es : List MapEntry) (D : List (Ky × Value)) : Prop := es.map (fun e => (e.key, e.val)) = D.map (fun p => (p.1.val, p.2))

theorem findAsking_ky (w : World) (k : Ky) (hk : k.ok) (hkb : Plain w k.b) : ∀ (es : List MapEntry) (D : List (Ky × Value)) (i : Nat), Holds es D → (∀ p ∈ D, Plain w p.1.b) →
    (Instr.findAsking 49 k.val es i).run Yba.prog w = .ok (lookI k D i) w
  | [], [], i, _, _ => by simp [Instr.findAsking, lookI]
  | [], p :: D, i, h, _ => by simp [Holds] at h
  | e :: es, [], i, h, _ => by simp [Holds] at h
  | e :: es, p :: D, i, h, hp => by
    have h2 : (e.key = p.1.val ∧ e.val = p.2) ∧ Holds es D := by simpa [Holds] using h
    have ih := findAsking_ky w k hk hkb es D (i + 1) h2.2 (fun q hq => hp q (by simp [hq]))
    have he := equal_ky w k p.1 hk hkb (hp p (by simp))
    unfold Instr.findAsking lookI
    rw [h2.1.1, h2.1.2]
    by_cases hc : k.t = p.1.t ∧ k.b = p.1.b
    · rw [decide_eq_true hc] at he
      rw [if_pos hc]
      simp [he]
    · rw [decide_eq_false hc] at he
      rw [if_neg hc]
      simp [he, ih]

theorem findKey_ky (w : World) (k : Ky) (hk : k.ok) (hkb : Plain w k.b) (es : List MapEntry) (D : List (Ky × Value)) (h : Holds es D) (hp : ∀ p ∈ D, Plain w p.1.b) :
    (Instr.findKey 49 k.val es).run Yba.prog w = .ok (lookI k D 0) w := by
  have hf := findAsking_ky w k hk hkb es D 0 h hp
  cases es with
  | nil =>
    cases D with
    | nil => simp [Instr.findKey, Instr.findNow, lookI, run_underlying Yba.underlying49]
    | cons p D => simp [Holds] at h
  | cons e es =>
    simp [Instr.findKey, Instr.findNow, Instr.sameNow, run_underlying Yba.underlying49, hf]

theorem checkKey_ky (w : World) (k : Ky) (hk : k.ok) (em : Bool) : (Instr.checkKey em 10000 49 k.val).run Yba.prog w = .ok () w := by
  have h : ∀ d : Nat, (Instr.checkKey em (d + 2) 49 k.val).run Yba.prog w = .ok () w := fun d => by
    unfold Ky.val
    rcases hk with h | h | h | h <;> rw [h]
    · obtain ⟨i, hi, hc⟩ := Option.map_eq_some_iff.1 Yba.j45
      simp [Instr.checkKey, run_underlying Yba.underlying49, run_underlying Yba.underlying45, typeInfo, hi, hc]
    · obtain ⟨i, hi, hc⟩ := Option.map_eq_some_iff.1 Yba.j53
      simp [Instr.checkKey, run_underlying Yba.underlying49, run_underlying Yba.underlying53, typeInfo, hi, hc]
    · obtain ⟨i, hi, hc⟩ := Option.map_eq_some_iff.1 Yba.j63
      simp [Instr.checkKey, run_underlying Yba.underlying49, run_underlying Yba.underlying63, typeInfo, hi, hc]
    · obtain ⟨i, hi, hc⟩ := Option.map_eq_some_iff.1 Yba.j72
      simp [Instr.checkKey, run_underlying Yba.underlying49, run_underlying Yba.underlying72, typeInfo, hi, hc]
  exact h 9998

/-- The map at block r holds D. -/
structure MapAt (w : World) (r : Nat) (D : List (Ky × Value)) : Prop where
  ex : ∃ es clock, w.heap[r]? = some (.map es clock) ∧ Holds es.toList D
  pl : ∀ p ∈ D, Plain w p.1.b

theorem getObj_at (w : World) (r : Nat) (o : Obj) (es : Array MapEntry) (c : Nat) (h : w.heap[r]? = some (.map es c)) : (getObj r).run Yba.prog w = .ok (.map es c) w := by
  simp [getObj, Sem.run, h]

theorem lookup_ok (w : World) (r : Nat) (D : List (Ky × Value)) (hm : MapAt w r D) (k : Ky) (hk : k.ok) (hkb : Plain w k.b) :
    (Instr.lookup 93 (.map (some r)) k.val true).run Yba.prog w = .ok (.tuple #[(lookD k D).getD .nilIface, .bool (lookD k D).isSome]) w := by
  obtain ⟨es, c, he, hh⟩ := hm.ex
  have h1 := checkKey_ky w k hk es.isEmpty
  have h2 := findKey_ky w k hk hkb es.toList D hh hm.pl
  have h3 := lookI_map k D 0
  have h4 := getObj_at w r (.map es c) es c he
  cases hl : lookI k D 0 with
  | none =>
    rw [hl] at h2 h3
    rw [← h3]
    simp [Instr.lookup, run_underlying Yba.underlying93, h4, h1, h2, Yba.zeroValue49]
  | some q =>
    rw [hl] at h2 h3
    rw [← h3]
    simp [Instr.lookup, run_underlying Yba.underlying93, h4, h1, h2]

theorem lookup_v (w : World) (r : Nat) (D : List (Ky × Value)) (hm : MapAt w r D) (k : Ky) (hk : k.ok) (hkb : Plain w k.b) :
    (Instr.lookup 93 (.map (some r)) k.val false).run Yba.prog w = .ok ((lookD k D).getD .nilIface) w := by
  obtain ⟨es, c, he, hh⟩ := hm.ex
  have h1 := checkKey_ky w k hk es.isEmpty
  have h2 := findKey_ky w k hk hkb es.toList D hh hm.pl
  have h3 := lookI_map k D 0
  have h4 := getObj_at w r (.map es c) es c he
  cases hl : lookI k D 0 with
  | none =>
    rw [hl] at h2 h3
    rw [← h3]
    simp [Instr.lookup, run_underlying Yba.underlying93, h4, h1, h2, Yba.zeroValue49]
  | some q =>
    rw [hl] at h2 h3
    rw [← h3]
    simp [Instr.lookup, run_underlying Yba.underlying93, h4, h1, h2]

def putObj (w : World) (r : Nat) (o : Obj) : World := { w with heap := w.heap.setIfInBounds r o }

theorem update_new (w : World) (r : Nat) (D : List (Ky × Value)) (hm : MapAt w r D) (k : Ky) (hk : k.ok) (hkb : Plain w k.b) (v : Value) (hn : lookD k D = none) :
    ∃ es c, (Instr.mapUpdate 93 (.map (some r)) k.val v).run Yba.prog w = .ok () (putObj w r (.map es c)) ∧ Holds es.toList (D ++ [(k, v)]) := by
  obtain ⟨es, c, he, hh⟩ := hm.ex
  have h1 := checkKey_ky w k hk false
  have h2 := findKey_ky w k hk hkb es.toList D hh hm.pl
  have h3 := lookI_map k D 0
  have h4 := getObj_at w r (.map es c) es c he
  have h5 : lookI k D 0 = none := by
    rw [hn] at h3
    simpa using h3
  rw [h5] at h2
  refine ⟨es.push ⟨k.val, v, c⟩, c + 1, ?_, ?_⟩
  · have h6 : ∀ o, (setObj r o).run Yba.prog w = .ok () (putObj w r o) := fun o => by simp [setObj, Sem.run, he, putObj]
    simp [Instr.mapUpdate, run_underlying Yba.underlying93, h4, h1, h2, h6]
  · unfold Holds at hh ⊢
    simp [hh]
end Go.Proofs.Ybulkbebo
