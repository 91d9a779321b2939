/-
  THE PROOF OF 'Rows.FnObjectPtrEqualsNoOtherTypeSaid': the guide's template at this function's number and types; the walk is ours.
-/
import Derived.Test.YoecswRows
import Derived.WalkKit
import Derived.ProofKit
import Derived.OpenShut
import Derived.ShutString
import Derived.Test.YoecswPtrWalks
namespace Go.Proofs.Yoecsw.fnObjectPtrEqualsNoOtherType
open Go.ChangeShapes Go.WideShapes Go.ChangeAt Go.RowKit
open Go.ChangeMaps (open_string shut_string)
open Go.Proofs.Yoecsw.ptr
set_option linter.unusedVariables false      -- a walk need not use every 'w<i>' (that an integer argument fits its kind)

theorem own : ownKnob Ecsg.prog.godebug = none := by kernel_rfl

/-! ### 'zzBytes_..': is the string's length at most 1048576? -/
theorem bytes_small (a0 : Int) (a1 : ByteArray) (a2 : Int) (h : (a1.size : Int) ≤ 1048576) (w : World) :
    Calls Ecsg.prog 14 #[.int .i64 a0, .string a1, .int .i32 a2] w fun e w' => e = .returned (.bool true) ∧ w' = w := by
  go_enter Ecsg.func14, Ecsg.ntmps14
  go_wp2
  go_ret
  exact ⟨rfl, rfl⟩

theorem bytes_big (a0 : Int) (a1 : ByteArray) (a2 : Int) (h : 1048576 < (a1.size : Int)) (w : World) :
    Calls Ecsg.prog 14 #[.int .i64 a0, .string a1, .int .i32 a2] w fun e w' => e = .returned (.bool false) ∧ w' = w := by
  go_enter Ecsg.func14, Ecsg.ntmps14
  go_wp2
  go_ret
  exact ⟨rfl, rfl⟩

theorem grown_trans {w w1 w2 : World} (h1 : Grown w w1) (h2 : Grown w1 w2) : Grown w w2 :=
  ⟨World.keptBut_trans h1.1 h2.1, fun a => (h2.2.1 a).trans (h1.2.1 a), Nat.le_trans h1.2.2 h2.2.2⟩

/-! ### the five 'Equals' between values of two types: false -/
theorem equals13_39 (a c : Addr) (w : World) :
    Calls Ecsg.prog 13 #[.pointer (some a), .iface 39 (.pointer (some c))] w fun e w' => e = .returned (.bool false) ∧ w' = w := by
  have he := eql_39
  go_enter Ecsg.func13, Ecsg.ntmps13
  go_wp2
  go_ret
  exact ⟨rfl, rfl⟩

theorem equals13_42 (a c : Addr) (w : World) :
    Calls Ecsg.prog 13 #[.pointer (some a), .iface 42 (.pointer (some c))] w fun e w' => e = .returned (.bool false) ∧ w' = w := by
  have he := eql_42
  go_enter Ecsg.func13, Ecsg.ntmps13
  go_wp2
  go_ret
  exact ⟨rfl, rfl⟩

theorem equals13_46 (a c : Addr) (w : World) :
    Calls Ecsg.prog 13 #[.pointer (some a), .iface 46 (.pointer (some c))] w fun e w' => e = .returned (.bool false) ∧ w' = w := by
  have he := eql_46
  go_enter Ecsg.func13, Ecsg.ntmps13
  go_wp2
  go_ret
  exact ⟨rfl, rfl⟩

theorem equals13_49 (a c : Addr) (w : World) :
    Calls Ecsg.prog 13 #[.pointer (some a), .iface 49 (.pointer (some c))] w fun e w' => e = .returned (.bool false) ∧ w' = w := by
  have he := eql_49
  go_enter Ecsg.func13, Ecsg.ntmps13
  go_wp2
  go_ret
  exact ⟨rfl, rfl⟩

theorem equals20 (a c : Addr) (w : World) :
    Calls Ecsg.prog 20 #[.pointer (some c), .iface 23 (.pointer (some a))] w fun e w' => e = .returned (.bool false) ∧ w' = w := by
  have he := assert_39
  go_enter Ecsg.func20, Ecsg.ntmps20
  go_wp2
  go_ret
  exact ⟨rfl, rfl⟩

theorem equals21 (a c : Addr) (w : World) :
    Calls Ecsg.prog 21 #[.pointer (some c), .iface 23 (.pointer (some a))] w fun e w' => e = .returned (.bool false) ∧ w' = w := by
  have he := assert_42
  go_enter Ecsg.func21, Ecsg.ntmps21
  go_wp2
  go_ret
  exact ⟨rfl, rfl⟩

theorem equals22 (a c : Addr) (w : World) :
    Calls Ecsg.prog 22 #[.pointer (some c), .iface 23 (.pointer (some a))] w fun e w' => e = .returned (.bool false) ∧ w' = w := by
  have he := assert_46
  go_enter Ecsg.func22, Ecsg.ntmps22
  go_wp2
  go_ret
  exact ⟨rfl, rfl⟩

theorem equals23 (a c : Addr) (w : World) :
    Calls Ecsg.prog 23 #[.pointer (some c), .iface 23 (.pointer (some a))] w fun e w' => e = .returned (.bool false) ∧ w' = w := by
  have he := eql_49_23
  go_enter Ecsg.func23, Ecsg.ntmps23
  go_wp2
  go_ret
  exact ⟨rfl, rfl⟩

/-! ### 'zzNoOtherEquals' -/
set_option maxHeartbeats 400000 in
theorem noOther17 (a i s c u : Addr) (w : World) :
    Calls Ecsg.prog 17 #[.pointer (some a), .pointer (some i), .pointer (some s), .pointer (some c), .pointer (some u)] w fun e w' => e = .returned (.bool true) ∧ w' = w := by
  go_enter Ecsg.func17, Ecsg.ntmps17
  go_wp2_with fail
  refine (equals13_39 _ _ _).mono ?_
  rintro e w' ⟨rfl, hw⟩
  cases hw
  go_wp2_with fail
  refine (equals13_42 _ _ _).mono ?_
  rintro e w' ⟨rfl, hw⟩
  cases hw
  go_wp2_with fail
  refine (equals13_46 _ _ _).mono ?_
  rintro e w' ⟨rfl, hw⟩
  cases hw
  go_wp2_with fail
  refine (equals13_49 _ _ _).mono ?_
  rintro e w' ⟨rfl, hw⟩
  cases hw
  go_wp2_with fail
  refine (equals20 _ _ _).mono ?_
  rintro e w' ⟨rfl, hw⟩
  cases hw
  go_wp2_with fail
  refine (equals21 _ _ _).mono ?_
  rintro e w' ⟨rfl, hw⟩
  cases hw
  go_wp2_with fail
  refine (equals22 _ _ _).mono ?_
  rintro e w' ⟨rfl, hw⟩
  cases hw
  go_wp2_with fail
  refine (equals23 _ _ _).mono ?_
  rintro e w' ⟨rfl, hw⟩
  cases hw
  go_wp2_with fail
  go_ret
  exact ⟨rfl, rfl⟩

set_option maxHeartbeats 400000 in
theorem walk_small (a0 : Int) (a1 : ByteArray) (a2 : Int) (h : (a1.size : Int) ≤ 65536) (w : World) :
    Calls Ecsg.prog 6 #[.int .i64 a0, .string a1, .int .i32 a2] w fun e w' => e = .returned (.bool true) ∧ Grown w w' := by
  go_enter Ecsg.func6, Ecsg.ntmps6
  go_wp2_with fail
  refine (bytes_small _ _ _ (by omega) _).mono ?_
  rintro e w' ⟨rfl, hw⟩
  cases hw
  go_wp2_with fail
  refine (toInt15 _ _).mono ?_
  rintro e w1 ⟨b1, p1, rfl, hb1⟩
  go_wp2_with fail
  refine (toString16 _ _).mono ?_
  rintro e w2 ⟨b2, p2, rfl, hb2⟩
  have hG : Grown w w2 := grown_trans (hb1.grown.alloc _ _) hb2.grown
  clear hb1 hb2
  go_wp2_with fail
  refine (noOther17 _ _ _ _ _ _).mono ?_
  rintro e w3 ⟨rfl, hw⟩
  have hG3 : Grown w w3 := by rw [hw]; exact (((hG.alloc _ _).alloc _ _).alloc _ _).alloc _ _
  clear hw hG
  go_wp2_with fail
  refine (noOther17 _ _ _ _ _ _).mono ?_
  rintro e w' ⟨rfl, hw⟩
  cases hw
  go_wp2_with fail
  refine (noOther17 _ _ _ _ _ _).mono ?_
  rintro e w' ⟨rfl, hw⟩
  cases hw
  go_wp2_with fail
  go_ret
  exact ⟨rfl, hG3⟩

/-! ### THE WALK: the Go text returns true; the world has at most new blocks -/
theorem walk (a0 : Int) (a1 : ByteArray) (a2 : Int) (w0 : (Lit.int .i64 a0).wf = true) (w1 : a1.size ≤ maxLen) (w2 : (Lit.int .i32 a2).wf = true) (w : World) :
    Calls Ecsg.prog 6 #[.int .i64 a0, .string a1, .int .i32 a2] w fun e w' => e = .returned (.bool true) ∧ Grown w w' := by
  by_cases h1 : 1048576 < (a1.size : Int)
  · go_enter Ecsg.func6, Ecsg.ntmps6
    go_wp2_with fail
    refine (bytes_big _ _ _ h1 _).mono ?_
    rintro e w' ⟨rfl, rfl⟩
    go_wp2_with fail
    go_ret
    exact ⟨rfl, Grown.refl _⟩
  · by_cases h2 : 65536 < (a1.size : Int)
    · go_enter Ecsg.func6, Ecsg.ntmps6
      go_wp2_with fail
      refine (bytes_small _ _ _ (by omega) _).mono ?_
      rintro e w' ⟨rfl, rfl⟩
      go_wp2_with fail
      go_ret
      exact ⟨rfl, Grown.refl _⟩
    · exact walk_small a0 a1 a2 (by omega) w

/-! ### THE ROW's STEP: WRITTEN OUT: LEAVE IT -/
set_option maxRecDepth 100000 in
theorem lifted (os : Os) (started : os.Started) (H : Type) (enc : TypeId × Value → H) :
    ReturnsInHanded {} Ecsg.checked os 6 .any (Rows.fnObjectPtrEqualsNoOtherTypeSpec.pre6 enc Ecsg.prog Ecsg.f6 Rows.fnObjectPtrEqualsNoOtherTypeRow.domain false) (Rows.fnObjectPtrEqualsNoOtherTypeSpec.post enc Ecsg.prog Ecsg.f6 false true false false) := by
  refine returnsInHanded_of_change (C := Ecsg.checked) own started (by kernel_rfl) Ecsg.func6
    (ChangeSpec.witness6 (enc := enc) (C := Ecsg.checked) false ⟨#[], #[.int .i64 0, .string ByteArray.empty, .int .i32 0], []⟩ 8 (by kernel_rfl) (by kernel_rfl) (by kernel_rfl) (by kernel_rfl)) ?_
  intro W base args ds gs before hval0 hW hcnd _
  have hval : ∀ (j : Nat) t v, Ecsg.f6.params[j]? = some t → args[j]? = some v → Value.okWide Ecsg.prog W .any base t v := hval0
  have hW' := hW
  obtain ⟨p, q, hA0, hV, rfl, hfz, hnd⟩ := hW
  have hA : DataW.TrodAll enc Ecsg.prog W 0 (fun _ => true) true Ecsg.f6.params.toList args.toList ds p := hA0
  rw [Ecsg.params6] at hA hval
  obtain ⟨v0, vs0, d0, ds0, p0, q0, hargs, rfl, rfl, h0, r0⟩ := trodAll_cons hA
  obtain ⟨v1, vs1, d1, ds1, p1, q1, rfl, rfl, rfl, h1, r1⟩ := trodAll_cons r0
  obtain ⟨v2, vs2, d2, ds2, p2, q2, rfl, rfl, rfl, h2, r2⟩ := trodAll_cons r1
  obtain ⟨rfl, rfl, rfl⟩ := trodAll_nil r2
  obtain rfl : args = #[v0, v1, v2] := by cases args; simp_all
  obtain ⟨rfl, rfl⟩ := trodVars_none hV
  obtain ⟨a0, rfl, rfl, rfl, w0⟩ := open_int Ecsg.underlying2 (hval 0 2 v0 rfl rfl) h0
  obtain ⟨a1, rfl, rfl, rfl, w1⟩ := open_string Ecsg.underlying9 (hval 1 9 v1 rfl rfl) h1
  obtain ⟨a2, rfl, rfl, rfl, w2⟩ := open_int Ecsg.underlying21 (hval 2 21 v2 rfl rfl) h2
  clear hA0 hval0
  simp only [List.append_nil] at hW'
  refine (walk a0 a1 a2 w0 w1 w2 W).mono fun e W' ⟨he, hg⟩ => ?_
  subst he
  exact ⟨_, rfl, post_of_same (pa := []) (pv := []) hW' (fun _ _ _ => (trodAll_cons_mk (shut_bool Ecsg.underlying4 _) trodAll_mk0)) (fun sp _ => (trodAll_cons_mk (shut_int Ecsg.underlying2 w0) (trodAll_cons_mk (shut_string Ecsg.underlying9 w1) (trodAll_cons_mk (shut_int Ecsg.underlying21 w2) trodAll_mk0)))) (fun _ _ => rfl) rfl
    (hg.frame _) hg.2.1 (ok_one (by kernel_rfl) rfl (okWide_bool_mk Ecsg.underlying4 _))⟩

theorem over : Rows.fnObjectPtrEqualsNoOtherTypeRow.holds Ecsg.pinned (OpenSpec.ofChange Rows.fnObjectPtrEqualsNoOtherTypeSpec) :=
  OpenClaim.holds_of_wide 6 Ecsg.f6 rfl rfl rfl rfl rfl rfl rfl ⟨rfl, rfl, rfl, rfl, rfl⟩ rfl rfl rfl rfl rfl (by kernel_rfl) Ecsg.func6 (by kernel_rfl)
    (of_decide_eq_true (by kernel_rfl)) (by unfold Func.isWrapper; first | (rw [if_pos (by decide +kernel)]; kernel_rfl) | (rw [if_neg (by decide +kernel)]; exact ⟨rfl, rfl⟩))
    (fun os started H enc _ => lifted os started H enc)

/-- ████ THE STATEMENT ████ -/
theorem proved : Rows.FnObjectPtrEqualsNoOtherTypeSaid :=
  over
end Go.Proofs.Yoecsw.fnObjectPtrEqualsNoOtherType
