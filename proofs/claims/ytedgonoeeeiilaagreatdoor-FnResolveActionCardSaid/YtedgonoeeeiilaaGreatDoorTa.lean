/- What a test on the type of an interface value comes to, at the types of a schema. -/
import Derived.Test.YtedgonoeeeiilaaGreatDoorJBase
namespace Go.Proofs.YtedgonoeeeiilaaGreatDoor
open Go.RowKit
theorem ta_yes {P : Program} {T : TypeId} (d : TypeDesc) (h : P.underlying T = some d) (hd : (match d with | .interface _ => false | _ => true) = true) (X : TypeId) (v : Value) (w : World) :
    (Instr.typeAssert (.iface T v) X T true).run P w = .ok (.tuple #[v, .bool true]) w := by
  unfold Instr.typeAssert
  simp only [Sem.run_bind, run_underlying h, Result.andThen]
  cases d <;> simp_all
theorem ta_no {P : Program} {T : TypeId} (d : TypeDesc) (z : Value) (h : P.underlying T = some d) (hd : (match d with | .interface _ => false | _ => true) = true) (hz : ∀ w, (zeroValue T).run P w = .ok z w) (X t : TypeId) (ne : t ≠ T) (v : Value) (w : World) :
    (Instr.typeAssert (.iface t v) X T true).run P w = .ok (.tuple #[z, .bool false]) w := by
  unfold Instr.typeAssert
  simp only [Sem.run_bind, run_underlying h, Result.andThen]
  cases d <;> simp_all [Result.andThen]
theorem taY_aStr (v : Value) (w : World) : (Instr.typeAssert (.iface 237 v) 183 237 true).run Tryz.prog w = .ok (.tuple #[v, .bool true]) w := ta_yes _ Tryz.underlying237 rfl _ v w
theorem taN_aStr (t : TypeId) (h : t ≠ 237) (v : Value) (w : World) : (Instr.typeAssert (.iface t v) 183 237 true).run Tryz.prog w = .ok (.tuple #[.agg #[], .bool false]) w := ta_no _ (.agg #[]) Tryz.underlying237 rfl (fun _ => by kernel_rfl) _ t h v w
theorem taY_aLong (v : Value) (w : World) : (Instr.typeAssert (.iface 239 v) 183 239 true).run Tryz.prog w = .ok (.tuple #[v, .bool true]) w := ta_yes _ Tryz.underlying239 rfl _ v w
theorem taN_aLong (t : TypeId) (h : t ≠ 239) (v : Value) (w : World) : (Instr.typeAssert (.iface t v) 183 239 true).run Tryz.prog w = .ok (.tuple #[.agg #[], .bool false]) w := ta_no _ (.agg #[]) Tryz.underlying239 rfl (fun _ => by kernel_rfl) _ t h v w
theorem taY_aBool (v : Value) (w : World) : (Instr.typeAssert (.iface 241 v) 183 241 true).run Tryz.prog w = .ok (.tuple #[v, .bool true]) w := ta_yes _ Tryz.underlying241 rfl _ v w
theorem taN_aBool (t : TypeId) (h : t ≠ 241) (v : Value) (w : World) : (Instr.typeAssert (.iface t v) 183 241 true).run Tryz.prog w = .ok (.tuple #[.agg #[], .bool false]) w := ta_no _ (.agg #[]) Tryz.underlying241 rfl (fun _ => by kernel_rfl) _ t h v w
theorem taY_aExt (v : Value) (w : World) : (Instr.typeAssert (.iface 242 v) 183 242 true).run Tryz.prog w = .ok (.tuple #[v, .bool true]) w := ta_yes _ Tryz.underlying242 rfl _ v w
theorem taN_aExt (t : TypeId) (h : t ≠ 242) (v : Value) (w : World) : (Instr.typeAssert (.iface t v) 183 242 true).run Tryz.prog w = .ok (.tuple #[.string ⟨#[]⟩, .bool false]) w := ta_no _ (.string ⟨#[]⟩) Tryz.underlying242 rfl (fun _ => by kernel_rfl) _ t h v w
theorem taY_aSet (v : Value) (w : World) : (Instr.typeAssert (.iface 244 v) 183 244 true).run Tryz.prog w = .ok (.tuple #[v, .bool true]) w := ta_yes _ Tryz.underlying244 rfl _ v w
theorem taN_aSet (t : TypeId) (h : t ≠ 244) (v : Value) (w : World) : (Instr.typeAssert (.iface t v) 183 244 true).run Tryz.prog w = .ok (.tuple #[.agg #[.nilIface], .bool false]) w := ta_no _ (.agg #[.nilIface]) Tryz.underlying244 rfl (fun _ => by kernel_rfl) _ t h v w
theorem taY_aRec (v : Value) (w : World) : (Instr.typeAssert (.iface 181 v) 183 181 true).run Tryz.prog w = .ok (.tuple #[v, .bool true]) w := ta_yes _ Tryz.underlying181 rfl _ v w
theorem taN_aRec (t : TypeId) (h : t ≠ 181) (v : Value) (w : World) : (Instr.typeAssert (.iface t v) 183 181 true).run Tryz.prog w = .ok (.tuple #[.map none, .bool false]) w := ta_no _ (.map none) Tryz.underlying181 rfl (fun _ => by kernel_rfl) _ t h v w
theorem taY_aEnt (v : Value) (w : World) : (Instr.typeAssert (.iface 230 v) 183 230 true).run Tryz.prog w = .ok (.tuple #[v, .bool true]) w := ta_yes _ Tryz.underlying230 rfl _ v w
theorem taN_aEnt (t : TypeId) (h : t ≠ 230) (v : Value) (w : World) : (Instr.typeAssert (.iface t v) 183 230 true).run Tryz.prog w = .ok (.tuple #[.string ⟨#[]⟩, .bool false]) w := ta_no _ (.string ⟨#[]⟩) Tryz.underlying230 rfl (fun _ => by kernel_rfl) _ t h v w
theorem taY_aRef (v : Value) (w : World) : (Instr.typeAssert (.iface 246 v) 183 246 true).run Tryz.prog w = .ok (.tuple #[v, .bool true]) w := ta_yes _ Tryz.underlying246 rfl _ v w
theorem taN_aRef (t : TypeId) (h : t ≠ 246) (v : Value) (w : World) : (Instr.typeAssert (.iface t v) 183 246 true).run Tryz.prog w = .ok (.tuple #[.string ⟨#[]⟩, .bool false]) w := ta_no _ (.string ⟨#[]⟩) Tryz.underlying246 rfl (fun _ => by kernel_rfl) _ t h v w
theorem taY_rStr (v : Value) (w : World) : (Instr.typeAssert (.iface 157 v) 77 157 true).run Tryz.prog w = .ok (.tuple #[v, .bool true]) w := ta_yes _ Tryz.underlying157 rfl _ v w
theorem taN_rStr (t : TypeId) (h : t ≠ 157) (v : Value) (w : World) : (Instr.typeAssert (.iface t v) 77 157 true).run Tryz.prog w = .ok (.tuple #[.agg #[], .bool false]) w := ta_no _ (.agg #[]) Tryz.underlying157 rfl (fun _ => by kernel_rfl) _ t h v w
theorem taY_rLong (v : Value) (w : World) : (Instr.typeAssert (.iface 158 v) 77 158 true).run Tryz.prog w = .ok (.tuple #[v, .bool true]) w := ta_yes _ Tryz.underlying158 rfl _ v w
theorem taN_rLong (t : TypeId) (h : t ≠ 158) (v : Value) (w : World) : (Instr.typeAssert (.iface t v) 77 158 true).run Tryz.prog w = .ok (.tuple #[.agg #[], .bool false]) w := ta_no _ (.agg #[]) Tryz.underlying158 rfl (fun _ => by kernel_rfl) _ t h v w
theorem taY_rBool (v : Value) (w : World) : (Instr.typeAssert (.iface 159 v) 77 159 true).run Tryz.prog w = .ok (.tuple #[v, .bool true]) w := ta_yes _ Tryz.underlying159 rfl _ v w
theorem taN_rBool (t : TypeId) (h : t ≠ 159) (v : Value) (w : World) : (Instr.typeAssert (.iface t v) 77 159 true).run Tryz.prog w = .ok (.tuple #[.agg #[], .bool false]) w := ta_no _ (.agg #[]) Tryz.underlying159 rfl (fun _ => by kernel_rfl) _ t h v w
theorem taY_rExt (v : Value) (w : World) : (Instr.typeAssert (.iface 160 v) 77 160 true).run Tryz.prog w = .ok (.tuple #[v, .bool true]) w := ta_yes _ Tryz.underlying160 rfl _ v w
theorem taN_rExt (t : TypeId) (h : t ≠ 160) (v : Value) (w : World) : (Instr.typeAssert (.iface t v) 77 160 true).run Tryz.prog w = .ok (.tuple #[.string ⟨#[]⟩, .bool false]) w := ta_no _ (.string ⟨#[]⟩) Tryz.underlying160 rfl (fun _ => by kernel_rfl) _ t h v w
theorem taY_rSet (v : Value) (w : World) : (Instr.typeAssert (.iface 162 v) 77 162 true).run Tryz.prog w = .ok (.tuple #[v, .bool true]) w := ta_yes _ Tryz.underlying162 rfl _ v w
theorem taN_rSet (t : TypeId) (h : t ≠ 162) (v : Value) (w : World) : (Instr.typeAssert (.iface t v) 77 162 true).run Tryz.prog w = .ok (.tuple #[.agg #[.nilIface], .bool false]) w := ta_no _ (.agg #[.nilIface]) Tryz.underlying162 rfl (fun _ => by kernel_rfl) _ t h v w
theorem taY_rRec (v : Value) (w : World) : (Instr.typeAssert (.iface 75 v) 77 75 true).run Tryz.prog w = .ok (.tuple #[v, .bool true]) w := ta_yes _ Tryz.underlying75 rfl _ v w
theorem taN_rRec (t : TypeId) (h : t ≠ 75) (v : Value) (w : World) : (Instr.typeAssert (.iface t v) 77 75 true).run Tryz.prog w = .ok (.tuple #[.map none, .bool false]) w := ta_no _ (.map none) Tryz.underlying75 rfl (fun _ => by kernel_rfl) _ t h v w
theorem taY_rEnt (v : Value) (w : World) : (Instr.typeAssert (.iface 163 v) 77 163 true).run Tryz.prog w = .ok (.tuple #[v, .bool true]) w := ta_yes _ Tryz.underlying163 rfl _ v w
theorem taN_rEnt (t : TypeId) (h : t ≠ 163) (v : Value) (w : World) : (Instr.typeAssert (.iface t v) 77 163 true).run Tryz.prog w = .ok (.tuple #[.string ⟨#[]⟩, .bool false]) w := ta_no _ (.string ⟨#[]⟩) Tryz.underlying163 rfl (fun _ => by kernel_rfl) _ t h v w
end Go.Proofs.YtedgonoeeeiilaaGreatDoor
