/- errors.Is and errors.is by contracts: an errors.errorString, a joined error; the target a sentinel of errors.New's make. -/
import Derived.Test.Qxb6613332aDoorRows
import Derived.WalkKit
import Derived.WalkSpells
import Derived.LaidEql
import Derived.Stop.Asserts
import Derived.RowKitTokens
namespace Go.Proofs.Qxb6613332aDoor
open Go.RowKit Go.Extern.Stop Go.Stop Go.Extern

namespace Ld
/-! closed facts -/
theorem isTypeOf (v : Value) (w : World) : (Extern.ReflectliteType.typeOf #[.iface 31 v]).run Tryd.prog w = .ok (.iface 43 (.agg #[.pointer (some ⟨1, 31, none⟩)])) w := by kernel_rfl
/-- The model's entry for '(rtype).Comparable', behind a name. -/
def cmpEntry : Array Value → Sem Value := Extern.ReflectliteType.method fun t => do Extern.Rtype.noPackHeld "Comparable" t; pure (.bool (← typeInfo t).comparable)
theorem isComparable (w : World) : (cmpEntry #[.agg #[.pointer (some ⟨1, 31, none⟩)]]).run Tryd.prog w = .ok (.bool true) w := by kernel_rfl
theorem isComp : (Tryd.prog.info? 31).map (·.comparable) = some true := by kernel_rfl
theorem isSize : (Tryd.prog.info? 33).map (·.size) = some 1 := by kernel_rfl
theorem noIsE (v : Value) (xT : TypeId) (w : World) : (Instr.typeAssert (.iface 31 v) xT 45 true).run Tryd.prog w = .ok (.tuple #[.nilIface, .bool false]) w := run_typeAssert_lacksB Tryd.underlying45 (by kernel_rfl) (by kernel_rfl) v xT w
theorem noUnwrapE (v : Value) (xT : TypeId) (w : World) : (Instr.typeAssert (.iface 31 v) xT 47 true).run Tryd.prog w = .ok (.tuple #[.nilIface, .bool false]) w := run_typeAssert_lacksB Tryd.underlying47 (by kernel_rfl) (by kernel_rfl) v xT w
theorem noUnwrapsE (v : Value) (xT : TypeId) (w : World) : (Instr.typeAssert (.iface 31 v) xT 49 true).run Tryd.prog w = .ok (.tuple #[.nilIface, .bool false]) w := run_typeAssert_lacksB Tryd.underlying49 (by kernel_rfl) (by kernel_rfl) v xT w
theorem noIsJ (v : Value) (xT : TypeId) (w : World) : (Instr.typeAssert (.iface 35 v) xT 45 true).run Tryd.prog w = .ok (.tuple #[.nilIface, .bool false]) w := run_typeAssert_lacksB Tryd.underlying45 (by kernel_rfl) (by kernel_rfl) v xT w
theorem noUnwrapJ (v : Value) (xT : TypeId) (w : World) : (Instr.typeAssert (.iface 35 v) xT 47 true).run Tryd.prog w = .ok (.tuple #[.nilIface, .bool false]) w := run_typeAssert_lacksB Tryd.underlying47 (by kernel_rfl) (by kernel_rfl) v xT w
theorem hasUnwrapsJ (v : Value) (xT : TypeId) (w : World) : (Instr.typeAssert (.iface 35 v) xT 49 true).run Tryd.prog w = .ok (.tuple #[.iface 35 v, .bool true]) w := run_typeAssert_hasB Tryd.underlying49 (by kernel_rfl) v xT w

theorem methodUnwrap (v : Value) (w : World) : (Go.method 191 35 v "Unwrap").run Tryd.prog w = .ok (37, v) w := by kernel_rfl
theorem methodComparable (v : Value) (w : World) : (Go.method 191 43 v "Comparable").run Tryd.prog w = .ok (41, v) w := by kernel_rfl

/-- errors.is(x, x, true). -/
theorem is0_same (a : Addr) (w : World) :
    Calls Tryd.prog 19 #[.iface 31 (.pointer (some a)), .iface 31 (.pointer (some a)), .bool true] w fun e w' => e = .returned (.bool true) ∧ w' = w := by
  obtain ⟨i, hi, hcmp⟩ := Option.map_eq_some_iff.1 isComp
  obtain ⟨j, hj, hjs⟩ := Option.map_eq_some_iff.1 isSize
  have heq := run_eql_iface_ptr_same (P := Tryd.prog) w a Tryd.underlying26 Tryd.underlying31 hi hcmp hj
  go_enter Tryd.func19, Tryd.ntmps19
  go_wp2
  refine wp_loop_rounds 1 ?_
  rw [rounds_succ]
  go_wp2
  go_ret
  exact ⟨rfl, rfl⟩
/-- errors.is(x, y, true), two pointers that differ. -/
theorem is0_other (a b : Addr) (ca cb : Array Value) (ta tb : TypeId) (w : World) (hne : a ≠ b) (ha : w.heap[a.block]? = some (.cells ca ta (0, 0))) (hb : w.heap[b.block]? = some (.cells cb tb (0, 0))) :
    Calls Tryd.prog 19 #[.iface 31 (.pointer (some a)), .iface 31 (.pointer (some b)), .bool true] w fun e w' => e = .returned (.bool false) ∧ w' = w := by
  obtain ⟨i, hi, hcmp⟩ := Option.map_eq_some_iff.1 isComp
  obtain ⟨j, hj, hjs⟩ := Option.map_eq_some_iff.1 isSize
  have nE := noIsE
  have uE := noUnwrapE
  have vE := noUnwrapsE
  have heq := run_eql_iface_ptr_other (P := Tryd.prog) w Tryd.underlying26 Tryd.underlying31 hi hcmp hj (by rw [hjs]; decide) hne ha hb
  go_enter Tryd.func19, Tryd.ntmps19
  go_wp2
  refine wp_loop_rounds 1 ?_
  rw [rounds_succ]
  go_wp2
  go_ret
  exact ⟨rfl, rfl⟩

/-- errors.is(e, y, true), e a join of one error that differs. -/
theorem is0_join1 (pb po sb so cap : Nat) (a b : Addr) (ca cb : Array Value) (ta tb : TypeId) (w : World) (hp : w.cell? ⟨pb, po, none⟩ = some (.slice (some ⟨sb, so, none⟩) 1 cap)) (h0 : w.cell? ⟨sb, so, none⟩ = some (.iface 31 (.pointer (some a))))
    (hne : a ≠ b) (ha : w.heap[a.block]? = some (.cells ca ta (0, 0))) (hb : w.heap[b.block]? = some (.cells cb tb (0, 0))) :
    Calls Tryd.prog 19 #[.iface 35 (.pointer (some ⟨pb, po, none⟩)), .iface 31 (.pointer (some b)), .bool true] w fun e w' => e = .returned (.bool false) ∧ w' = w := by
  have nJ := noIsJ
  have uJ := noUnwrapJ
  have vJ := hasUnwrapsJ
  have hty := run_eql_iface_types (P := Tryd.prog) 35 31 (.pointer (some ⟨pb, po, none⟩)) (.pointer (some b)) Tryd.underlying26 (by decide) w
  have mU := methodUnwrap
  go_enter Tryd.func19, Tryd.ntmps19
  go_wp2
  refine wp_loop_rounds 1 ?_
  rw [rounds_succ]
  go_wp2
  refine wp_loop_rounds 2 ?_
  rw [rounds_succ]
  go_wp2_with (go_at_call 19; refine (is0_other a b ca cb ta tb _ hne ha hb).mono ?_; rintro e w' ⟨rfl, rfl⟩)
  rw [rounds_succ]
  go_wp2
  go_ret
  exact ⟨rfl, rfl⟩
/-- .. a join of two, the first the target itself. -/
theorem is0_join2_first (pb po sb so cap : Nat) (b : Addr) (w : World) (hp : w.cell? ⟨pb, po, none⟩ = some (.slice (some ⟨sb, so, none⟩) 2 cap)) (h0 : w.cell? ⟨sb, so, none⟩ = some (.iface 31 (.pointer (some b)))) :
    Calls Tryd.prog 19 #[.iface 35 (.pointer (some ⟨pb, po, none⟩)), .iface 31 (.pointer (some b)), .bool true] w fun e w' => e = .returned (.bool true) ∧ w' = w := by
  have nJ := noIsJ
  have uJ := noUnwrapJ
  have vJ := hasUnwrapsJ
  have hty := run_eql_iface_types (P := Tryd.prog) 35 31 (.pointer (some ⟨pb, po, none⟩)) (.pointer (some b)) Tryd.underlying26 (by decide) w
  have mU := methodUnwrap
  go_enter Tryd.func19, Tryd.ntmps19
  go_wp2
  refine wp_loop_rounds 1 ?_
  rw [rounds_succ]
  go_wp2
  refine wp_loop_rounds 2 ?_
  rw [rounds_succ]
  go_wp2_with (go_at_call 19; refine (is0_same b _).mono ?_; rintro e w' ⟨rfl, rfl⟩)
  go_ret
  exact ⟨rfl, rfl⟩
/-- .. a join of two, the second the target itself. -/
theorem is0_join2_second (pb po sb so cap : Nat) (a b : Addr) (ca cb : Array Value) (ta tb : TypeId) (w : World) (hp : w.cell? ⟨pb, po, none⟩ = some (.slice (some ⟨sb, so, none⟩) 2 cap)) (h0 : w.cell? ⟨sb, so, none⟩ = some (.iface 31 (.pointer (some a))))
    (h1 : w.cell? ⟨sb, so + 1, none⟩ = some (.iface 31 (.pointer (some b)))) (hne : a ≠ b) (ha : w.heap[a.block]? = some (.cells ca ta (0, 0))) (hb : w.heap[b.block]? = some (.cells cb tb (0, 0))) :
    Calls Tryd.prog 19 #[.iface 35 (.pointer (some ⟨pb, po, none⟩)), .iface 31 (.pointer (some b)), .bool true] w fun e w' => e = .returned (.bool true) ∧ w' = w := by
  have nJ := noIsJ
  have uJ := noUnwrapJ
  have vJ := hasUnwrapsJ
  have hty := run_eql_iface_types (P := Tryd.prog) 35 31 (.pointer (some ⟨pb, po, none⟩)) (.pointer (some b)) Tryd.underlying26 (by decide) w
  have mU := methodUnwrap
  go_enter Tryd.func19, Tryd.ntmps19
  go_wp2
  refine wp_loop_rounds 1 ?_
  rw [rounds_succ]
  go_wp2
  refine wp_loop_rounds 2 ?_
  rw [rounds_succ]
  go_wp2_with (go_at_call 19; refine (is0_other a b ca cb ta tb _ hne ha hb).mono ?_; rintro e w' ⟨rfl, rfl⟩)
  rw [rounds_succ]
  go_wp2_with (go_at_call 19; refine (is0_same b _).mono ?_; rintro e w' ⟨rfl, rfl⟩)
  go_ret
  exact ⟨rfl, rfl⟩

/-- errors.Is(e, y), y of errors.New's make, e not nil: just errors.is(e, y, true). -/
theorem is_of (t : TypeId) (v : Value) (b : Addr) (w : World) (r : Bool)
    (h : Calls Tryd.prog 19 #[.iface t v, .iface 31 (.pointer (some b)), .bool true] w fun e w' => e = .returned (.bool r) ∧ w' = w) :
    Calls Tryd.prog 17 #[.iface t v, .iface 31 (.pointer (some b))] w fun e w' => e = .returned (.bool r) ∧ w' = w := by
  have h8 := @run_callFunc_extern Tryd.prog 18 _ Extern.ReflectliteType.typeOf Tryd.func18 (by kernel_rfl) (by kernel_rfl) (by kernel_rfl) (by kernel_rfl)
  have h32 := @run_callFunc_extern Tryd.prog 41 _ cmpEntry Tryd.func41 (by kernel_rfl) (by kernel_rfl) (by kernel_rfl) (by kernel_rfl)
  have tT := isTypeOf
  have cT := isComparable
  have mR := methodComparable
  have H : Hid (Calls Tryd.prog 19 #[.iface t v, .iface 31 (.pointer (some b)), .bool true] w fun e w' => e = .returned (.bool r) ∧ w' = w) := h
  clear h
  go_enter Tryd.func17, Tryd.ntmps17
  go_wp2_with (first | (go_at_call 19; refine H.out.mono ?_; rintro e w' ⟨rfl, rfl⟩) | go_in)
  go_ret
  exact ⟨rfl, rfl⟩
end Ld
end Go.Proofs.Qxb6613332aDoor
