/- What a test on the type of an interface value comes to, at the types of a schema. -/
import Derived.Test.YthhjehajdcgkhaaGreatDoorRep
namespace Go.Proofs.YthhjehajdcgkhaaGreatDoor
open Go.RowKit
theorem ta_yes {P : Program} {T : TypeId} (d : TypeDesc) (h : P.underlying T = some d) (hd : (match d with | .interface _ => false | _ => true) = true) (X : TypeId) (v : Value) (w : World) :
    (Instr.typeAssert (.iface T v) X T true).run P w = .ok (.tuple #[v, .bool true]) w := by
  unfold Instr.typeAssert
  simp only [Sem.run_bind, run_underlying h, Result.andThen]
  cases d <;> simp_all
theorem ta_no {P : Program} {T : TypeId} (d : TypeDesc) (z : Value) (h : P.underlying T = some d) (hd : (match d with | .interface _ => false | _ => true) = true) (hz : ∀ w, (zeroValue T).run P w = .ok z w) (X t : TypeId) (ne : t ≠ T) (v : Value) (w : World) :
    (Instr.typeAssert (.iface t v) X T true).run P w = .ok (.tuple #[z, .bool false]) w := by
  unfold Instr.typeAssert
  simp only [Sem.run_bind, run_underlying h, Result.andThen]
  cases d <;> simp_all [Result.andThen]
theorem taY_aStr (v : Value) (w : World) : (Instr.typeAssert (.iface 242 v) 190 242 true).run Tryz.prog w = .ok (.tuple #[v, .bool true]) w := ta_yes _ Tryz.underlying242 rfl _ v w
theorem taN_aStr (t : TypeId) (h : t ≠ 242) (v : Value) (w : World) : (Instr.typeAssert (.iface t v) 190 242 true).run Tryz.prog w = .ok (.tuple #[.agg #[], .bool false]) w := ta_no _ (.agg #[]) Tryz.underlying242 rfl (fun _ => by kernel_rfl) _ t h v w
theorem taY_aLong (v : Value) (w : World) : (Instr.typeAssert (.iface 244 v) 190 244 true).run Tryz.prog w = .ok (.tuple #[v, .bool true]) w := ta_yes _ Tryz.underlying244 rfl _ v w
theorem taN_aLong (t : TypeId) (h : t ≠ 244) (v : Value) (w : World) : (Instr.typeAssert (.iface t v) 190 244 true).run Tryz.prog w = .ok (.tuple #[.agg #[], .bool false]) w := ta_no _ (.agg #[]) Tryz.underlying244 rfl (fun _ => by kernel_rfl) _ t h v w
theorem taY_aBool (v : Value) (w : World) : (Instr.typeAssert (.iface 246 v) 190 246 true).run Tryz.prog w = .ok (.tuple #[v, .bool true]) w := ta_yes _ Tryz.underlying246 rfl _ v w
theorem taN_aBool (t : TypeId) (h : t ≠ 246) (v : Value) (w : World) : (Instr.typeAssert (.iface t v) 190 246 true).run Tryz.prog w = .ok (.tuple #[.agg #[], .bool false]) w := ta_no _ (.agg #[]) Tryz.underlying246 rfl (fun _ => by kernel_rfl) _ t h v w
theorem taY_aExt (v : Value) (w : World) : (Instr.typeAssert (.iface 247 v) 190 247 true).run Tryz.prog w = .ok (.tuple #[v, .bool true]) w := ta_yes _ Tryz.underlying247 rfl _ v w
theorem taN_aExt (t : TypeId) (h : t ≠ 247) (v : Value) (w : World) : (Instr.typeAssert (.iface t v) 190 247 true).run Tryz.prog w = .ok (.tuple #[.string ⟨#[]⟩, .bool false]) w := ta_no _ (.string ⟨#[]⟩) Tryz.underlying247 rfl (fun _ => by kernel_rfl) _ t h v w
theorem taY_aSet (v : Value) (w : World) : (Instr.typeAssert (.iface 249 v) 190 249 true).run Tryz.prog w = .ok (.tuple #[v, .bool true]) w := ta_yes _ Tryz.underlying249 rfl _ v w
theorem taN_aSet (t : TypeId) (h : t ≠ 249) (v : Value) (w : World) : (Instr.typeAssert (.iface t v) 190 249 true).run Tryz.prog w = .ok (.tuple #[.agg #[.nilIface], .bool false]) w := ta_no _ (.agg #[.nilIface]) Tryz.underlying249 rfl (fun _ => by kernel_rfl) _ t h v w
theorem taY_aRec (v : Value) (w : World) : (Instr.typeAssert (.iface 188 v) 190 188 true).run Tryz.prog w = .ok (.tuple #[v, .bool true]) w := ta_yes _ Tryz.underlying188 rfl _ v w
theorem taN_aRec (t : TypeId) (h : t ≠ 188) (v : Value) (w : World) : (Instr.typeAssert (.iface t v) 190 188 true).run Tryz.prog w = .ok (.tuple #[.map none, .bool false]) w := ta_no _ (.map none) Tryz.underlying188 rfl (fun _ => by kernel_rfl) _ t h v w
theorem taY_aEnt (v : Value) (w : World) : (Instr.typeAssert (.iface 235 v) 190 235 true).run Tryz.prog w = .ok (.tuple #[v, .bool true]) w := ta_yes _ Tryz.underlying235 rfl _ v w
theorem taN_aEnt (t : TypeId) (h : t ≠ 235) (v : Value) (w : World) : (Instr.typeAssert (.iface t v) 190 235 true).run Tryz.prog w = .ok (.tuple #[.string ⟨#[]⟩, .bool false]) w := ta_no _ (.string ⟨#[]⟩) Tryz.underlying235 rfl (fun _ => by kernel_rfl) _ t h v w
theorem taY_aRef (v : Value) (w : World) : (Instr.typeAssert (.iface 251 v) 190 251 true).run Tryz.prog w = .ok (.tuple #[v, .bool true]) w := ta_yes _ Tryz.underlying251 rfl _ v w
theorem taN_aRef (t : TypeId) (h : t ≠ 251) (v : Value) (w : World) : (Instr.typeAssert (.iface t v) 190 251 true).run Tryz.prog w = .ok (.tuple #[.string ⟨#[]⟩, .bool false]) w := ta_no _ (.string ⟨#[]⟩) Tryz.underlying251 rfl (fun _ => by kernel_rfl) _ t h v w
theorem taY_rStr (v : Value) (w : World) : (Instr.typeAssert (.iface 164 v) 88 164 true).run Tryz.prog w = .ok (.tuple #[v, .bool true]) w := ta_yes _ Tryz.underlying164 rfl _ v w
theorem taN_rStr (t : TypeId) (h : t ≠ 164) (v : Value) (w : World) : (Instr.typeAssert (.iface t v) 88 164 true).run Tryz.prog w = .ok (.tuple #[.agg #[], .bool false]) w := ta_no _ (.agg #[]) Tryz.underlying164 rfl (fun _ => by kernel_rfl) _ t h v w
theorem taY_rLong (v : Value) (w : World) : (Instr.typeAssert (.iface 165 v) 88 165 true).run Tryz.prog w = .ok (.tuple #[v, .bool true]) w := ta_yes _ Tryz.underlying165 rfl _ v w
theorem taN_rLong (t : TypeId) (h : t ≠ 165) (v : Value) (w : World) : (Instr.typeAssert (.iface t v) 88 165 true).run Tryz.prog w = .ok (.tuple #[.agg #[], .bool false]) w := ta_no _ (.agg #[]) Tryz.underlying165 rfl (fun _ => by kernel_rfl) _ t h v w
theorem taY_rBool (v : Value) (w : World) : (Instr.typeAssert (.iface 166 v) 88 166 true).run Tryz.prog w = .ok (.tuple #[v, .bool true]) w := ta_yes _ Tryz.underlying166 rfl _ v w
theorem taN_rBool (t : TypeId) (h : t ≠ 166) (v : Value) (w : World) : (Instr.typeAssert (.iface t v) 88 166 true).run Tryz.prog w = .ok (.tuple #[.agg #[], .bool false]) w := ta_no _ (.agg #[]) Tryz.underlying166 rfl (fun _ => by kernel_rfl) _ t h v w
theorem taY_rExt (v : Value) (w : World) : (Instr.typeAssert (.iface 167 v) 88 167 true).run Tryz.prog w = .ok (.tuple #[v, .bool true]) w := ta_yes _ Tryz.underlying167 rfl _ v w
theorem taN_rExt (t : TypeId) (h : t ≠ 167) (v : Value) (w : World) : (Instr.typeAssert (.iface t v) 88 167 true).run Tryz.prog w = .ok (.tuple #[.string ⟨#[]⟩, .bool false]) w := ta_no _ (.string ⟨#[]⟩) Tryz.underlying167 rfl (fun _ => by kernel_rfl) _ t h v w
theorem taY_rSet (v : Value) (w : World) : (Instr.typeAssert (.iface 169 v) 88 169 true).run Tryz.prog w = .ok (.tuple #[v, .bool true]) w := ta_yes _ Tryz.underlying169 rfl _ v w
theorem taN_rSet (t : TypeId) (h : t ≠ 169) (v : Value) (w : World) : (Instr.typeAssert (.iface t v) 88 169 true).run Tryz.prog w = .ok (.tuple #[.agg #[.nilIface], .bool false]) w := ta_no _ (.agg #[.nilIface]) Tryz.underlying169 rfl (fun _ => by kernel_rfl) _ t h v w
theorem taY_rRec (v : Value) (w : World) : (Instr.typeAssert (.iface 86 v) 88 86 true).run Tryz.prog w = .ok (.tuple #[v, .bool true]) w := ta_yes _ Tryz.underlying86 rfl _ v w
theorem taN_rRec (t : TypeId) (h : t ≠ 86) (v : Value) (w : World) : (Instr.typeAssert (.iface t v) 88 86 true).run Tryz.prog w = .ok (.tuple #[.map none, .bool false]) w := ta_no _ (.map none) Tryz.underlying86 rfl (fun _ => by kernel_rfl) _ t h v w
theorem taY_rEnt (v : Value) (w : World) : (Instr.typeAssert (.iface 170 v) 88 170 true).run Tryz.prog w = .ok (.tuple #[v, .bool true]) w := ta_yes _ Tryz.underlying170 rfl _ v w
theorem taN_rEnt (t : TypeId) (h : t ≠ 170) (v : Value) (w : World) : (Instr.typeAssert (.iface t v) 88 170 true).run Tryz.prog w = .ok (.tuple #[.string ⟨#[]⟩, .bool false]) w := ta_no _ (.string ⟨#[]⟩) Tryz.underlying170 rfl (fun _ => by kernel_rfl) _ t h v w
end Go.Proofs.YthhjehajdcgkhaaGreatDoor
