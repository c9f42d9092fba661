/- Amounts of 64 bits: sums and differences (resource/amount.go: Add, Sub). -/
import Derived.Test.YtcpjclakdpjjfaaGreatDoorW16
import Derived.Test.YtcpjclakdpjjfaaGreatDoorW05
import Derived.Deep.RegionHeld3
namespace Go.Proofs.YtcpjclakdpjjfaaGreatDoor
open Go.RowKit Wd Dg
/-- The cells of a quantity. -/
def qc (v s : Int) (d st f : Value) : Array Value := #[.int .i64 v, .int .i32 s, d, st, f]
def AddRet (w : World) (b : Nat) (v s y t : Int) (d st f : Value) (e : Ending) (w' : World) : Prop :=
  Mod [b] w w' ∧ ((e = .returned (.bool true) ∧ ∃ v' s', Hd w' b 70 (qc v' s' d st f) ∧ i64 v' ∧ (s' = s ∨ s' = t) ∧ v' * sc s' = v * sc s + y * sc t) ∨ (e = .returned (.bool false) ∧ Hd w' b 70 (qc v s d st f)))
theorem AddRet.yes {w w' : World} {b : Nat} {v s y t v' s' : Int} {d st f : Value} (m : Mod [b] w w') (h : Hd w' b 70 (qc v' s' d st f)) (h1 : i64 v') (h2 : s' = s ∨ s' = t) (h3 : v' * sc s' = v * sc s + y * sc t) : AddRet w b v s y t d st f (.returned (.bool true)) w' :=
  ⟨m, .inl ⟨rfl, v', s', h, h1, h2, h3⟩⟩
theorem AddRet.no {w w' : World} {b : Nat} {v s y t : Int} {d st f : Value} (m : Mod [b] w w') (h : Hd w' b 70 (qc v s d st f)) : AddRet w b v s y t d st f (.returned (.bool false)) w' :=
  ⟨m, .inr ⟨rfl, h⟩⟩
/-- The sum laid down behind some draws. -/
theorem AddRet.sum {w W : World} {b : Nat} {v s y t cc : Int} {d st f : Value} (m : Mod [b] w W) (h : Hd W b 70 (qc v s d st f)) (k : Nat) (hc : i64 cc) (h3 : cc * sc s = v * sc s + y * sc t) : AddRet w b v s y t d st f (.returned (.bool true)) ((W.drewN k).setCell ⟨b, 0, none⟩ (.int .i64 cc)) :=
  AddRet.yes ((m.drewN k).setCell _ (.inl (by simp))) (Hd.set (h.mod ((Mod.refl [] W).drewN k) (by simp)) 0 (.int .i64 cc)) hc (.inl rfl) h3
end Go.Proofs.YtcpjclakdpjjfaaGreatDoor
