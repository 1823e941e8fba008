/- Types without records. -/
import Derived.Test.YthhjehajdcgkhaaGreatDoorSpec
namespace Go.Proofs.YthhjehajdcgkhaaGreatDoor

/-- a type without records -/
inductive Flat : ATy → Prop
  | str : Flat .str
  | long : Flat .long
  | bool : Flat .bool
  | ext (s : Str) : Flat (.ext s)
  | set {t : ATy} : Flat t → Flat (.set t)
  | ent (s : Str) : Flat (.ent s)
  | ref (s : Str) : Flat (.ref s)
end Go.Proofs.YthhjehajdcgkhaaGreatDoor
