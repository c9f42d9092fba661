/- From the walk of FnQuantityBack to its row. -/
import Derived.Test.YtcpjclakdpjjfaaGreatDoorC28
import Derived.Test.YtcpjclakdpjjfaaGreatDoorX8b
import Derived.Test.YtcpjclakdpjjfaaGreatDoorTie
import Derived.Below
import Derived.SevenTiedAt
namespace Go.Proofs.YtcpjclakdpjjfaaGreatDoor
open Go.ChangeShapes Go.WideShapes Go.ChangeAt Go.RowKit
theorem ownK8 : ownKnob Tryz.prog.godebug = none := by kernel_rfl
/-- The law FnQuantityBack, walked. -/
def Walk8 : Prop := ∀ (sign : Int) (num : ByteArray) (dot : Bool) (den : ByteArray) (kind place : Int) (up : Bool) (ps : Int) (pow : ByteArray) (sign' : Int) (num' : ByteArray) (dot' : Bool) (den' : ByteArray) (kind' place' : Int) (up' : Bool) (ps' : Int) (pow' : ByteArray) (w : World), LaidEnv w →
    Calls Tryz.prog 8 #[.agg #[.int .i64 sign, .string num, .bool dot, .string den, .int .i64 kind, .int .i64 place, .bool up, .int .i64 ps, .string pow], .agg #[.int .i64 sign', .string num', .bool dot', .string den', .int .i64 kind', .int .i64 place', .bool up', .int .i64 ps', .string pow']] w fun e w' => e = .returned (.bool true) ∧ Below w.heap.size w w'
set_option maxRecDepth 100000 in
theorem lifted8 (walk : Walk8) (os : Os) (started : os.Started) (H : Type) (enc : TypeId × Value → H) :
    ReturnsInHanded {} Tryz.checked os 8 .any (fun w args => (Rows.fnQuantityBackSpec.pre enc Tryz.prog Tryz.f8 [] false w args ∧ laidMetH Tryz.prog Rows.fnQuantityBackRow.laid w) ∧ sizedMet enc Tryz.prog Tryz.f8 (OpenSpec.ofChange Rows.fnQuantityBackSpec) false w args)
      (Rows.fnQuantityBackSpec.post enc Tryz.prog Tryz.f8 false true false false) := by
  refine returnsInHanded_of_change_and (C := Tryz.checked) (X := fun w _ => laidMetH Tryz.prog Rows.fnQuantityBackRow.laid w) (fun _ _ _ hh h => h.of_heap hh) ownK8 started (by kernel_rfl) Tryz.func8
    (ChangeSpec.witness_shaped (enc := enc) (C := Tryz.checked) (os := os) (X := fun w _ => laidMetH Tryz.prog Rows.fnQuantityBackRow.laid w) false (World.laidAll Tryz.prog os Rows.fnQuantityBackRow.laid) #[.agg #[.int .i64 0, .string ⟨#[]⟩, .bool false, .string ⟨#[]⟩, .int .i64 0, .int .i64 0, .bool false, .int .i64 0, .string ⟨#[]⟩], .agg #[.int .i64 0, .string ⟨#[]⟩, .bool false, .string ⟨#[]⟩, .int .i64 0, .int .i64 0, .bool false, .int .i64 0, .string ⟨#[]⟩]] 8 (World.laidAll_os _ _ _)
      (World.shaped_of_ZipB (by kernel_rfl) (by kernel_rfl)) (by kernel_rfl) (by kernel_rfl) (by kernel_rfl)
      (by rw [MakeChecks.laidMetH_plain _ _ _ (by kernel_rfl)]; exact laidMet_laidAll _ (by kernel_rfl) (by kernel_rfl))) ?_
  intro W base args ds gs before hval0 hW _ _ hL _
  have hval : ∀ (j : Nat) t v, Tryz.f8.params[j]? = some t → args[j]? = some v → Value.okWide Tryz.prog W .any base t v := hval0
  have hW' := hW
  obtain ⟨p, q, hA0, hV, rfl, _, _⟩ := hW
  have hA : DataW.TrodAll enc Tryz.prog W 0 (fun _ => true) true Tryz.f8.params.toList args.toList ds p := hA0
  rw [Tryz.params8] at hA hval
  obtain ⟨v0, v1, d0, d1, p0, p1, rfl, rfl, rfl, h0, h1⟩ := trodAll_two hA
  obtain ⟨rfl, rfl⟩ := trodVars_none hV
  obtain ⟨sign, num, dot, den, kind, place, up, ps, pow, rfl, hf, rfl, rfl⟩ := word_open (hval 0 23 v0 rfl rfl) h0
  obtain ⟨sign', num', dot', den', kind', place', up', ps', pow', rfl, hf', rfl, rfl⟩ := word_open (hval 1 23 v1 rfl rfl) h1
  have e1 : Rows.fnQuantityBackSpec.fn H ([wdat sign num dot den kind place up ps pow, wdat sign' num' dot' den' kind' place' up' ps' pow'] ++ []) = { results := [.lit (.bool true)], args := [wdat sign num dot den kind place up ps pow, wdat sign' num' dot' den' kind' place' up' ps' pow'] } := rfl
  refine (walk sign num dot den kind place up ps pow sign' num' dot' den' kind' place' up' ps' pow' W (laid_env hL)).mono fun e W' ⟨he, hb⟩ => ?_
  subst he
  refine ⟨_, rfl, _, _, _, [], [], [], hW', ?_, ?_, ?_, hb.frame _, fun h => by cases h⟩
  · rw [e1]; exact trodAll_mk1 (shut_bool Tryz.underlying4 true)
  · rw [e1]; exact trodAll_mk2 (word_shut hf dot up _ _ _ _) (word_shut hf' dot' up' _ _ _ _)
  · rw [e1]; rfl
theorem holds8 (walk : Walk8) : Rows.FnQuantityBackSaid :=
  OpenClaim.holds_of_wide 8 Tryz.f8 rfl rfl rfl rfl rfl rfl rfl ⟨rfl, rfl, rfl, rfl, rfl⟩ rfl rfl rfl rfl rfl (by kernel_rfl) Tryz.func8 closed8
    (of_decide_eq_true (by kernel_rfl)) (by unfold Func.isWrapper; first | (rw [if_pos (by decide +kernel)]; kernel_rfl) | (rw [if_neg (by decide +kernel)]; exact ⟨rfl, rfl⟩))
    (fun os started H enc _ => lifted8 walk os started H enc)
end Go.Proofs.YtcpjclakdpjjfaaGreatDoor

