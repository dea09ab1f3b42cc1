/- Comparisons. -/
import Derived.Test.YbulkbeboGrw
import Derived.Laws.StructEq
namespace Go.Proofs.Ybulkbebo
open Go.RowKit
open Classical
set_option linter.unusedSimpArgs false
set_option linter.unusedVariables false

theorem neq_func75 (w : World) (f : Fn) (xs ys : Array Value) : (binOp .neq 75 (.func f xs ys) .nilFunc).run Yba.prog w = .ok (.bool true) w := by
  have h : ∀ d : Nat, (Op.equalIn (d + 1) 75 (.func f xs ys) .nilFunc).run Yba.prog w = .ok false w := fun d => by
    simp [Op.equalIn, run_underlying Yba.underlying75]
  simp only [binOp]
  simp [Op.equal, Op.maxDepth, h 9999]
attribute [local go_sem] neq_func75
theorem neq_func76 (w : World) (f : Fn) (xs ys : Array Value) : (binOp .neq 76 (.func f xs ys) .nilFunc).run Yba.prog w = .ok (.bool true) w := by
  have h : ∀ d : Nat, (Op.equalIn (d + 1) 76 (.func f xs ys) .nilFunc).run Yba.prog w = .ok false w := fun d => by
    simp [Op.equalIn, run_underlying Yba.underlying76]
  simp only [binOp]
  simp [Op.equal, Op.maxDepth, h 9999]
attribute [local go_sem] neq_func76
theorem neq_nil76 (w : World) : (binOp .neq 76 .nilFunc .nilFunc).run Yba.prog w = .ok (.bool false) w := by
  have h : ∀ d : Nat, (Op.equalIn (d + 1) 76 .nilFunc .nilFunc).run Yba.prog w = .ok true w := fun d => by
    simp [Op.equalIn, run_underlying Yba.underlying76]
  simp only [binOp]
  simp [Op.equal, Op.maxDepth, h 9999]

attribute [local go_sem] neq_nil76
theorem eql_ky (w : World) (k l : Ky) (hk : k.ok) (hkb : Plain w k.b) (hlb : Plain w l.b) : (binOp .eql 49 k.val l.val).run Yba.prog w = .ok (.bool (decide (k = l))) w := by
  have h := equal_ky w k l hk hkb hlb
  have e : decide (k.t = l.t ∧ k.b = l.b) = decide (k = l) := decide_eq_decide.2 (Ky.eq_iff k l)
  rw [e] at h
  unfold Ky.val at *
  simp only [binOp]
  simp [h]

theorem Yba.j71 : (Yba.prog.info? 71).map (fun i => i.size == 0) = some false := by kernel_rfl

theorem eql_ptr_te (w : World) (tp te : TypeId) (a b : Nat) (hp : Yba.prog.underlying tp = some (.pointer te)) (hj : (Yba.prog.info? te).map (fun i => i.size == 0) = some false) (ha : Plain w a) (hb : Plain w b) : (binOp .eql tp (.pointer (some ⟨a, 0, none⟩)) (.pointer (some ⟨b, 0, none⟩))).run Yba.prog w = .ok (.bool (decide (a = b))) w := by
  obtain ⟨j, hj, hs⟩ := Option.map_eq_some_iff.1 hj
  by_cases h : a = b
  · subst h
    rw [decide_eq_true rfl]
    exact run_eql_ptr_same w _ hp hj
  · rw [decide_eq_false h]
    obtain ⟨ca, ta, ha⟩ := ha
    obtain ⟨cb, tb, hb⟩ := hb
    exact run_eql_ptr_other w hp hj (by simpa using hs) (by simp [h]) ha hb

theorem eql_field (w : World) (a b : Nat) (ha : Plain w a) (hb : Plain w b) : (binOp .eql 67 (.pointer (some ⟨a, 0, none⟩)) (.pointer (some ⟨b, 0, none⟩))).run Yba.prog w = .ok (.bool (decide (a = b))) w :=
  eql_ptr_te w 67 71 a b Yba.underlying67 Yba.j71 ha hb

theorem eql_param (w : World) (a b : Nat) (ha : Plain w a) (hb : Plain w b) : (binOp .eql 45 (.pointer (some ⟨a, 0, none⟩)) (.pointer (some ⟨b, 0, none⟩))).run Yba.prog w = .ok (.bool (decide (a = b))) w :=
  eql_ptr_te w 45 51 a b Yba.underlying45 Yba.j51 ha hb

theorem Yba.s69 : Yba.prog.stoodInHeld 69 = false := by kernel_rfl
theorem Yba.fo69 : Yba.prog.fieldsOf 69 = #[{ name := "T", type := 49, offset := 0, embedded := false, tag := "", pkgPath := "", byteOffset := 0 }, { name := "V", type := 49, offset := 1, embedded := false, tag := "", pkgPath := "", byteOffset := 16 }] := by kernel_rfl

theorem part49 (w : World) (cs : Array Value) (o : Nat) (v : Value) (h : cs[o]? = some v) : (part 49 cs o).run Yba.prog w = .ok v w := by
  simp [part, isAgg, run_underlying Yba.underlying49, h]

theorem neq_ann (w : World) (a b c d : Ky) (ha : a.ok) (hb : b.ok) (hab : Plain w a.b) (hbb : Plain w b.b) (hcb : Plain w c.b) (hdb : Plain w d.b) :
    (binOp .neq 69 (.agg #[a.val, b.val]) (.agg #[c.val, d.val])).run Yba.prog w = .ok (.bool (!decide (a = c ∧ b = d))) w := by
  have h : ∀ k : Nat, (Op.equalIn (k + 3) 69 (.agg #[a.val, b.val]) (.agg #[c.val, d.val])).run Yba.prog w = .ok (decide (a = c ∧ b = d)) w := fun k => by
    rw [run_equalIn_struct w (k + 2) 69 _ _ (by rw [Yba.fo69]; exact Yba.underlying69) Yba.s69, Yba.fo69]
    have e1 : (Op.equalIn (k + 2) 49 a.val c.val).run Yba.prog w = .ok (decide (a = c)) w := by
      rw [equalIn_ky w k a c ha hab hcb]
      exact congrArg (fun x => Result.ok x w) (decide_eq_decide.2 (Ky.eq_iff a c))
    have e2 : (Op.equalIn (k + 2) 49 b.val d.val).run Yba.prog w = .ok (decide (b = d)) w := by
      rw [equalIn_ky w k b d hb hbb hdb]
      exact congrArg (fun x => Result.ok x w) (decide_eq_decide.2 (Ky.eq_iff b d))
    have q1 := part49 w #[a.val, b.val] 0 a.val rfl
    have q2 := part49 w #[a.val, b.val] 1 b.val rfl
    have q3 := part49 w #[c.val, d.val] 0 c.val rfl
    have q4 := part49 w #[c.val, d.val] 1 d.val rfl
    by_cases h1 : a = c
    · by_cases h2 : b = d
      · rw [decide_eq_true (And.intro h1 h2)]
        rw [decide_eq_true h1] at e1
        rw [decide_eq_true h2] at e2
        clear h1 h2 hab hbb hcb hdb
        simp [Op.eqFields, q1, q2, q3, q4, e1, e2]
      · rw [decide_eq_false (fun h => h2 h.2)]
        rw [decide_eq_true h1] at e1
        rw [decide_eq_false h2] at e2
        clear h1 h2 hab hbb hcb hdb
        simp [Op.eqFields, q1, q2, q3, q4, e1, e2]
    · rw [decide_eq_false (fun h => h1 h.1)]
      rw [decide_eq_false h1] at e1
      clear h1 hab hbb hcb hdb
      simp [Op.eqFields, q1, q2, q3, q4, e1, e2]
  rw [run_neq_struct, h 9997]
  rfl

theorem guard_ann (w : World) (x y : Operand) (a b c d : Ky) : (eqGuard .neq 69 x y (.agg #[a.val, b.val]) (.agg #[c.val, d.val])).run Yba.prog w = .ok () w := by
  unfold Ky.val
  obtain ⟨a1, a2⟩ := a
  obtain ⟨b1, b2⟩ := b
  obtain ⟨c1, c2⟩ := c
  obtain ⟨d1, d2⟩ := d
  simp only
  have h : ∀ k : Nat, (Op.eqGuardIn (k + 2) 69 (.agg #[.iface a1 (.pointer (some ⟨a2, 0, none⟩)), .iface b1 (.pointer (some ⟨b2, 0, none⟩))]) (.agg #[.iface c1 (.pointer (some ⟨c2, 0, none⟩)), .iface d1 (.pointer (some ⟨d2, 0, none⟩))])).run Yba.prog w = .ok false w := fun k => by
    simp [Op.eqGuardIn, run_underlying Yba.underlying69, run_underlying Yba.underlying49, part, isAgg]
  have h2 := h 9998
  simp only [eqGuard, Op.maxDepth]
  simp [run_program, h2]
theorem as45_45 (v : Value) (w : World) : (Instr.typeAssert (.iface 45 v) 49 45 true).run Yba.prog w = .ok (.tuple #[v, .bool true]) w := by kernel_rfl
attribute [local go_sem] as45_45
theorem as53_45 (v : Value) (w : World) : (Instr.typeAssert (.iface 53 v) 49 45 true).run Yba.prog w = .ok (.tuple #[.pointer none, .bool false]) w := by kernel_rfl
attribute [local go_sem] as53_45
theorem as63_45 (v : Value) (w : World) : (Instr.typeAssert (.iface 63 v) 49 45 true).run Yba.prog w = .ok (.tuple #[.pointer none, .bool false]) w := by kernel_rfl
attribute [local go_sem] as63_45
theorem as72_45 (v : Value) (w : World) : (Instr.typeAssert (.iface 72 v) 49 45 true).run Yba.prog w = .ok (.tuple #[.pointer none, .bool false]) w := by kernel_rfl
attribute [local go_sem] as72_45
theorem as45_63 (v : Value) (w : World) : (Instr.typeAssert (.iface 45 v) 49 63 true).run Yba.prog w = .ok (.tuple #[.pointer none, .bool false]) w := by kernel_rfl
attribute [local go_sem] as45_63
theorem as53_63 (v : Value) (w : World) : (Instr.typeAssert (.iface 53 v) 49 63 true).run Yba.prog w = .ok (.tuple #[.pointer none, .bool false]) w := by kernel_rfl
attribute [local go_sem] as53_63
theorem as63_63 (v : Value) (w : World) : (Instr.typeAssert (.iface 63 v) 49 63 true).run Yba.prog w = .ok (.tuple #[v, .bool true]) w := by kernel_rfl
attribute [local go_sem] as63_63
theorem as72_63 (v : Value) (w : World) : (Instr.typeAssert (.iface 72 v) 49 63 true).run Yba.prog w = .ok (.tuple #[.pointer none, .bool false]) w := by kernel_rfl
attribute [local go_sem] as72_63
theorem as45_72 (v : Value) (w : World) : (Instr.typeAssert (.iface 45 v) 49 72 true).run Yba.prog w = .ok (.tuple #[.pointer none, .bool false]) w := by kernel_rfl
attribute [local go_sem] as45_72
theorem as53_72 (v : Value) (w : World) : (Instr.typeAssert (.iface 53 v) 49 72 true).run Yba.prog w = .ok (.tuple #[.pointer none, .bool false]) w := by kernel_rfl
attribute [local go_sem] as53_72
theorem as63_72 (v : Value) (w : World) : (Instr.typeAssert (.iface 63 v) 49 72 true).run Yba.prog w = .ok (.tuple #[.pointer none, .bool false]) w := by kernel_rfl
attribute [local go_sem] as63_72
theorem as72_72 (v : Value) (w : World) : (Instr.typeAssert (.iface 72 v) 49 72 true).run Yba.prog w = .ok (.tuple #[v, .bool true]) w := by kernel_rfl
attribute [local go_sem] as72_72
theorem as45_95 (v : Value) (w : World) : (Instr.typeAssert (.iface 45 v) 49 95 true).run Yba.prog w = .ok (.tuple #[.pointer none, .bool false]) w := by kernel_rfl
attribute [local go_sem] as45_95
theorem as53_95 (v : Value) (w : World) : (Instr.typeAssert (.iface 53 v) 49 95 true).run Yba.prog w = .ok (.tuple #[.pointer none, .bool false]) w := by kernel_rfl
attribute [local go_sem] as53_95
theorem as63_95 (v : Value) (w : World) : (Instr.typeAssert (.iface 63 v) 49 95 true).run Yba.prog w = .ok (.tuple #[.pointer none, .bool false]) w := by kernel_rfl
attribute [local go_sem] as63_95
theorem as72_95 (v : Value) (w : World) : (Instr.typeAssert (.iface 72 v) 49 95 true).run Yba.prog w = .ok (.tuple #[.pointer none, .bool false]) w := by kernel_rfl
attribute [local go_sem] as72_95
end Go.Proofs.Ybulkbebo
