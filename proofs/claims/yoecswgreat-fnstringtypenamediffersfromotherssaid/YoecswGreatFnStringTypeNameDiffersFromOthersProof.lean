/-
  THE PROOF OF 'Rows.FnStringTypeNameDiffersFromOthersSaid': the guide's template at this function's number and types; the walk is ours.
-/
import Derived.Test.YoecswGreatRows
import Derived.WalkKit
import Derived.ProofKit
import Derived.OpenShut
import Derived.ShutString
import Derived.WalkLawsBesides
import Derived.Laws.IdiomStrings
namespace Go.Proofs.YoecswGreat.fnStringTypeNameDiffersFromOthers
open Go.ChangeShapes Go.WideShapes Go.ChangeAt Go.RowKit
open Go.ChangeMaps (open_string shut_string)
set_option linter.unusedVariables false      -- a walk need not use every 'w<i>' (that an integer argument fits its kind)

theorem own : ownKnob Ecsg.prog.godebug = none := by kernel_rfl

/-- nothing of what was in memory has turned; new blocks may lie behind it -/
def Kept (w w' : World) : Prop := w.keptBut w' (fun _ => False)

theorem Kept.refl (w : World) : Kept w w := World.keptBut_refl _ _
theorem Kept.alloc {w w' : World} (h : Kept w w') (o : Obj) : Kept w (w'.alloc o) := World.keptBut_trans h (World.keptBut_alloc _ _ _)
theorem Kept.drew {w w' : World} (h : Kept w w') : Kept w w'.drew := h

/-! ### 'zzBytes_..': is the string's length at most 1048576? -/
theorem bytes_small (a0 : ByteArray) (a1 : Int) (h : (a0.size : Int) ≤ 1048576) (w : World) :
    Calls Ecsg.prog 4 #[.string a0, .int .i64 a1] w fun e w' => e = .returned (.bool true) ∧ w' = w := by
  go_enter Ecsg.func4, Ecsg.ntmps4
  go_wp2
  go_ret
  exact ⟨rfl, rfl⟩

theorem bytes_big (a0 : ByteArray) (a1 : Int) (h : 1048576 < (a0.size : Int)) (w : World) :
    Calls Ecsg.prog 4 #[.string a0, .int .i64 a1] w fun e w' => e = .returned (.bool false) ∧ w' = w := by
  go_enter Ecsg.func4, Ecsg.ntmps4
  go_wp2
  go_ret
  exact ⟨rfl, rfl⟩

/-! ### the twelve 'TypeName's, and that the first is none of the others -/
theorem name5 (p : Value) (w : World) :
    Calls Ecsg.prog 5 #[p] w fun e w' => e = .returned (.string ⟨#[115, 116, 114, 105, 110, 103]⟩) ∧ w' = w := by
  go_enter Ecsg.func5, Ecsg.ntmps5
  go_wp2
  go_ret
  exact ⟨rfl, rfl⟩

theorem name6 (p : Value) (w : World) :
    Calls Ecsg.prog 6 #[p] w fun e w' => e = .returned (.string ⟨#[98, 121, 116, 101, 115]⟩) ∧ w' = w := by
  go_enter Ecsg.func6, Ecsg.ntmps6
  go_wp2
  go_ret
  exact ⟨rfl, rfl⟩

theorem name7 (p : Value) (w : World) :
    Calls Ecsg.prog 7 #[p] w fun e w' => e = .returned (.string ⟨#[105, 110, 116]⟩) ∧ w' = w := by
  go_enter Ecsg.func7, Ecsg.ntmps7
  go_wp2
  go_ret
  exact ⟨rfl, rfl⟩

theorem name8 (p : Value) (w : World) :
    Calls Ecsg.prog 8 #[p] w fun e w' => e = .returned (.string ⟨#[99, 104, 97, 114]⟩) ∧ w' = w := by
  go_enter Ecsg.func8, Ecsg.ntmps8
  go_wp2
  go_ret
  exact ⟨rfl, rfl⟩

theorem name9 (p : Value) (w : World) :
    Calls Ecsg.prog 9 #[p] w fun e w' => e = .returned (.string ⟨#[102, 108, 111, 97, 116]⟩) ∧ w' = w := by
  go_enter Ecsg.func9, Ecsg.ntmps9
  go_wp2
  go_ret
  exact ⟨rfl, rfl⟩

theorem name10 (p : Value) (w : World) :
    Calls Ecsg.prog 10 #[p] w fun e w' => e = .returned (.string ⟨#[97, 114, 114, 97, 121]⟩) ∧ w' = w := by
  go_enter Ecsg.func10, Ecsg.ntmps10
  go_wp2
  go_ret
  exact ⟨rfl, rfl⟩

theorem name11 (p : Value) (w : World) :
    Calls Ecsg.prog 11 #[p] w fun e w' => e = .returned (.string ⟨#[105, 109, 109, 117, 116, 97, 98, 108, 101, 45, 97, 114, 114, 97, 121]⟩) ∧ w' = w := by
  go_enter Ecsg.func11, Ecsg.ntmps11
  go_wp2
  go_ret
  exact ⟨rfl, rfl⟩

theorem name12 (p : Value) (w : World) :
    Calls Ecsg.prog 12 #[p] w fun e w' => e = .returned (.string ⟨#[109, 97, 112]⟩) ∧ w' = w := by
  go_enter Ecsg.func12, Ecsg.ntmps12
  go_wp2
  go_ret
  exact ⟨rfl, rfl⟩

theorem name13 (p : Value) (w : World) :
    Calls Ecsg.prog 13 #[p] w fun e w' => e = .returned (.string ⟨#[105, 109, 109, 117, 116, 97, 98, 108, 101, 45, 109, 97, 112]⟩) ∧ w' = w := by
  go_enter Ecsg.func13, Ecsg.ntmps13
  go_wp2
  go_ret
  exact ⟨rfl, rfl⟩

theorem name14 (p : Value) (w : World) :
    Calls Ecsg.prog 14 #[p] w fun e w' => e = .returned (.string ⟨#[117, 110, 100, 101, 102, 105, 110, 101, 100]⟩) ∧ w' = w := by
  go_enter Ecsg.func14, Ecsg.ntmps14
  go_wp2
  go_ret
  exact ⟨rfl, rfl⟩

theorem name15 (p : Value) (w : World) :
    Calls Ecsg.prog 15 #[p] w fun e w' => e = .returned (.string ⟨#[60, 102, 114, 101, 101, 45, 118, 97, 114, 62]⟩) ∧ w' = w := by
  go_enter Ecsg.func15, Ecsg.ntmps15
  go_wp2
  go_ret
  exact ⟨rfl, rfl⟩

theorem name16 (p : Value) (w : World) :
    Calls Ecsg.prog 16 #[p] w fun e w' => e = .returned (.string ⟨#[101, 114, 114, 111, 114]⟩) ∧ w' = w := by
  go_enter Ecsg.func16, Ecsg.ntmps16
  go_wp2
  go_ret
  exact ⟨rfl, rfl⟩

theorem differs6 : ((⟨#[115, 116, 114, 105, 110, 103]⟩ : ByteArray) == ⟨#[98, 121, 116, 101, 115]⟩) = false := by decide
theorem differs7 : ((⟨#[115, 116, 114, 105, 110, 103]⟩ : ByteArray) == ⟨#[105, 110, 116]⟩) = false := by decide
theorem differs8 : ((⟨#[115, 116, 114, 105, 110, 103]⟩ : ByteArray) == ⟨#[99, 104, 97, 114]⟩) = false := by decide
theorem differs9 : ((⟨#[115, 116, 114, 105, 110, 103]⟩ : ByteArray) == ⟨#[102, 108, 111, 97, 116]⟩) = false := by decide
theorem differs10 : ((⟨#[115, 116, 114, 105, 110, 103]⟩ : ByteArray) == ⟨#[97, 114, 114, 97, 121]⟩) = false := by decide
theorem differs11 : ((⟨#[115, 116, 114, 105, 110, 103]⟩ : ByteArray) == ⟨#[105, 109, 109, 117, 116, 97, 98, 108, 101, 45, 97, 114, 114, 97, 121]⟩) = false := by decide
theorem differs12 : ((⟨#[115, 116, 114, 105, 110, 103]⟩ : ByteArray) == ⟨#[109, 97, 112]⟩) = false := by decide
theorem differs13 : ((⟨#[115, 116, 114, 105, 110, 103]⟩ : ByteArray) == ⟨#[105, 109, 109, 117, 116, 97, 98, 108, 101, 45, 109, 97, 112]⟩) = false := by decide
theorem differs14 : ((⟨#[115, 116, 114, 105, 110, 103]⟩ : ByteArray) == ⟨#[117, 110, 100, 101, 102, 105, 110, 101, 100]⟩) = false := by decide
theorem differs15 : ((⟨#[115, 116, 114, 105, 110, 103]⟩ : ByteArray) == ⟨#[60, 102, 114, 101, 101, 45, 118, 97, 114, 62]⟩) = false := by decide
theorem differs16 : ((⟨#[115, 116, 114, 105, 110, 103]⟩ : ByteArray) == ⟨#[101, 114, 114, 111, 114]⟩) = false := by decide

set_option maxHeartbeats 400000 in
theorem walk_small (a0 : ByteArray) (a1 : Int) (h : (a0.size : Int) ≤ 65536) (w : World) :
    Calls Ecsg.prog 3 #[.string a0, .int .i64 a1] w fun e w' => e = .returned (.bool true) ∧ Kept w w' := by
  have hcv := fun wx => run_bytes_of_string (P := Ecsg.prog) wx 9 31 5 a0 Ecsg.underlying9 Ecsg.underlying31 Ecsg.underlying5
  have d6 := differs6
  have d7 := differs7
  have d8 := differs8
  have d9 := differs9
  have d10 := differs10
  have d11 := differs11
  have d12 := differs12
  have d13 := differs13
  have d14 := differs14
  have d15 := differs15
  have d16 := differs16
  go_enter Ecsg.func3, Ecsg.ntmps3
  go_wp2_with fail
  refine (bytes_small _ _ (by omega) _).mono ?_
  rintro e w' ⟨rfl, hw⟩
  cases hw
  have k4 := Kept.refl w
  go_wp2_with fail
  refine (name5 _ _).mono ?_
  rintro e x5 ⟨rfl, hw⟩
  have k5 : Kept w x5 := by rw [hw]; exact k4.alloc _
  clear hw k4
  go_wp2_with fail
  refine (name6 _ _).mono ?_
  rintro e x6 ⟨rfl, hw⟩
  have k6 : Kept w x6 := by rw [hw]; exact ((k5.alloc _).alloc _)
  clear hw k5
  go_wp2_with fail
  refine (name7 _ _).mono ?_
  rintro e x7 ⟨rfl, hw⟩
  have k7 : Kept w x7 := by rw [hw]; exact k6.alloc _
  clear hw k6
  go_wp2_with fail
  refine (name8 _ _).mono ?_
  rintro e x8 ⟨rfl, hw⟩
  have k8 : Kept w x8 := by rw [hw]; exact k7.alloc _
  clear hw k7
  go_wp2_with fail
  refine (name9 _ _).mono ?_
  rintro e x9 ⟨rfl, hw⟩
  have k9 : Kept w x9 := by rw [hw]; exact k8.alloc _
  clear hw k8
  go_wp2_with fail
  refine (name10 _ _).mono ?_
  rintro e x10 ⟨rfl, hw⟩
  have k10 : Kept w x10 := by rw [hw]; exact k9.alloc _
  clear hw k9
  go_wp2_with fail
  refine (name11 _ _).mono ?_
  rintro e x11 ⟨rfl, hw⟩
  have k11 : Kept w x11 := by rw [hw]; exact k10.alloc _
  clear hw k10
  go_wp2_with fail
  refine (name12 _ _).mono ?_
  rintro e x12 ⟨rfl, hw⟩
  have k12 : Kept w x12 := by rw [hw]; exact k11.alloc _
  clear hw k11
  go_wp2_with fail
  refine (name13 _ _).mono ?_
  rintro e x13 ⟨rfl, hw⟩
  have k13 : Kept w x13 := by rw [hw]; exact k12.alloc _
  clear hw k12
  go_wp2_with fail
  refine (name14 _ _).mono ?_
  rintro e x14 ⟨rfl, hw⟩
  have k14 : Kept w x14 := by rw [hw]; exact k13.alloc _
  clear hw k13
  go_wp2_with fail
  refine (name15 _ _).mono ?_
  rintro e x15 ⟨rfl, hw⟩
  have k15 : Kept w x15 := by rw [hw]; exact k14.alloc _
  clear hw k14
  go_wp2_with fail
  refine (name16 _ _).mono ?_
  rintro e x16 ⟨rfl, hw⟩
  have k16 : Kept w x16 := by rw [hw]; exact k15.alloc _
  clear hw k15
  go_wp2_with fail
  go_ret
  exact ⟨rfl, k16⟩

/-! ### THE WALK: the Go text returns true; the world has at most new blocks -/
theorem walk (a0 : ByteArray) (a1 : Int) (w0 : a0.size ≤ maxLen) (w1 : (Lit.int .i64 a1).wf = true) (w : World) :
    Calls Ecsg.prog 3 #[.string a0, .int .i64 a1] w fun e w' => e = .returned (.bool true) ∧ Kept w w' := by
  by_cases h1 : 1048576 < (a0.size : Int)
  · go_enter Ecsg.func3, Ecsg.ntmps3
    go_wp2_with fail
    refine (bytes_big _ _ h1 _).mono ?_
    rintro e w' ⟨rfl, rfl⟩
    go_wp2_with fail
    go_ret
    exact ⟨rfl, Kept.refl _⟩
  · by_cases h2 : 65536 < (a0.size : Int)
    · go_enter Ecsg.func3, Ecsg.ntmps3
      go_wp2_with fail
      refine (bytes_small _ _ (by omega) _).mono ?_
      rintro e w' ⟨rfl, rfl⟩
      go_wp2_with fail
      go_ret
      exact ⟨rfl, Kept.refl _⟩
    · exact walk_small a0 a1 (by omega) w

/-! ### THE ROW's STEP: WRITTEN OUT: LEAVE IT -/
set_option maxRecDepth 100000 in
theorem lifted (os : Os) (started : os.Started) (H : Type) (enc : TypeId × Value → H) :
    ReturnsInHanded {} Ecsg.checked os 3 .any (Rows.fnStringTypeNameDiffersFromOthersSpec.pre6 enc Ecsg.prog Ecsg.f3 Rows.fnStringTypeNameDiffersFromOthersRow.domain false) (Rows.fnStringTypeNameDiffersFromOthersSpec.post enc Ecsg.prog Ecsg.f3 false true false false) := by
  refine returnsInHanded_of_change (C := Ecsg.checked) own started (by kernel_rfl) Ecsg.func3
    (ChangeSpec.witness6 (enc := enc) (C := Ecsg.checked) false ⟨#[], #[.string ByteArray.empty, .int .i64 0], []⟩ 8 (by kernel_rfl) (by kernel_rfl) (by kernel_rfl) (by kernel_rfl)) ?_
  intro W base args ds gs before hval0 hW hcnd _
  have hval : ∀ (j : Nat) t v, Ecsg.f3.params[j]? = some t → args[j]? = some v → Value.okWide Ecsg.prog W .any base t v := hval0
  have hW' := hW
  obtain ⟨p, q, hA0, hV, rfl, hfz, hnd⟩ := hW
  have hA : DataW.TrodAll enc Ecsg.prog W 0 (fun _ => true) true Ecsg.f3.params.toList args.toList ds p := hA0
  rw [Ecsg.params3] at hA hval
  obtain ⟨v0, vs0, d0, ds0, p0, q0, hargs, rfl, rfl, h0, r0⟩ := trodAll_cons hA
  obtain ⟨v1, vs1, d1, ds1, p1, q1, rfl, rfl, rfl, h1, r1⟩ := trodAll_cons r0
  obtain ⟨rfl, rfl, rfl⟩ := trodAll_nil r1
  obtain rfl : args = #[v0, v1] := by cases args; simp_all
  obtain ⟨rfl, rfl⟩ := trodVars_none hV
  obtain ⟨a0, rfl, rfl, rfl, w0⟩ := open_string Ecsg.underlying9 (hval 0 9 v0 rfl rfl) h0
  obtain ⟨a1, rfl, rfl, rfl, w1⟩ := open_int Ecsg.underlying2 (hval 1 2 v1 rfl rfl) h1
  clear hA0 hval0
  simp only [List.append_nil] at hW'
  refine (walk a0 a1 w0 w1 W).mono fun e W' ⟨he, hg⟩ => ?_
  subst he
  exact ⟨_, rfl, _, _, _, [], [], [], hW', trodAll_cons_mk (shut_bool Ecsg.underlying4 _) trodAll_mk0, trodAll_cons_mk (shut_string Ecsg.underlying9 w0) (trodAll_cons_mk (shut_int Ecsg.underlying2 w1) trodAll_mk0), rfl, World.keptBut_mono (fun _ f => f.elim) hg, fun h => by cases h⟩

theorem over : Rows.fnStringTypeNameDiffersFromOthersRow.holds Ecsg.pinned (OpenSpec.ofChange Rows.fnStringTypeNameDiffersFromOthersSpec) :=
  OpenClaim.holds_of_wide 3 Ecsg.f3 rfl rfl rfl rfl rfl rfl rfl ⟨rfl, rfl, rfl, rfl, rfl⟩ rfl rfl rfl rfl rfl (by kernel_rfl) Ecsg.func3 (by kernel_rfl)
    (of_decide_eq_true (by kernel_rfl)) (by unfold Func.isWrapper; first | (rw [if_pos (by decide +kernel)]; kernel_rfl) | (rw [if_neg (by decide +kernel)]; exact ⟨rfl, rfl⟩))
    (fun os started H enc _ => lifted os started H enc)

/-- ████ THE STATEMENT ████ -/
theorem proved : Rows.FnStringTypeNameDiffersFromOthersSaid :=
  over
end Go.Proofs.YoecswGreat.fnStringTypeNameDiffersFromOthers
