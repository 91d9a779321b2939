/-
  THE PROOF OF 'Rows.FnObjectPtrEqualsIsIdentitySaid': the guide's template at this function's number and types; the walk is ours.
-/
import Derived.Test.YoecswRows
import Derived.WalkKit
import Derived.ProofKit
import Derived.OpenShut
import Derived.ShutString
import Derived.Test.YoecswPtrWalks
namespace Go.Proofs.Yoecsw.fnObjectPtrEqualsIsIdentity
open Go.ChangeShapes Go.WideShapes Go.ChangeAt Go.RowKit
open Go.ChangeMaps (open_string shut_string)
open Go.Proofs.Yoecsw.ptr
set_option linter.unusedVariables false      -- a walk need not use every 'w<i>' (that an integer argument fits its kind)

theorem own : ownKnob Ecsg.prog.godebug = none := by kernel_rfl

theorem grown_trans {w w1 w2 : World} (h1 : Grown w w1) (h2 : Grown w1 w2) : Grown w w2 :=
  ⟨World.keptBut_trans h1.1 h2.1, fun a => (h2.2.1 a).trans (h1.2.1 a), Nat.le_trans h1.2.2 h2.2.2⟩

/-! ### 'zzBytes_..': is the string's length at most 1048576? -/
theorem bytes_small (a0 : Bool) (a1 : Int) (a2 : Int) (a3 : ByteArray) (h : (a3.size : Int) ≤ 1048576) (w : World) :
    Calls Ecsg.prog 12 #[.bool a0, .int .u8 a1, .int .i64 a2, .string a3] w fun e w' => e = .returned (.bool true) ∧ w' = w := by
  go_enter Ecsg.func12, Ecsg.ntmps12
  go_wp2
  go_ret
  exact ⟨rfl, rfl⟩

theorem bytes_big (a0 : Bool) (a1 : Int) (a2 : Int) (a3 : ByteArray) (h : 1048576 < (a3.size : Int)) (w : World) :
    Calls Ecsg.prog 12 #[.bool a0, .int .u8 a1, .int .i64 a2, .string a3] w fun e w' => e = .returned (.bool false) ∧ w' = w := by
  go_enter Ecsg.func12, Ecsg.ntmps12
  go_wp2
  go_ret
  exact ⟨rfl, rfl⟩

set_option maxHeartbeats 400000 in
theorem walk_small (a0 : Bool) (a1 : Int) (a2 : Int) (a3 : ByteArray) (w1 : (Lit.int .u8 a1).wf = true) (h : (a3.size : Int) ≤ 65536) (w : World) :
    Calls Ecsg.prog 5 #[.bool a0, .int .u8 a1, .int .i64 a2, .string a3] w fun e w' => e = .returned (.bool true) ∧ Grown w w' := by
  have hme := method_equals
  go_enter Ecsg.func5, Ecsg.ntmps5
  go_wp2_with fail
  refine (bytes_small _ _ _ _ (by omega) _).mono ?_
  rintro e w' ⟨rfl, hw⟩
  cases hw
  go_wp2_with fail
  refine (build8 _ _ _ _ w1 _).mono ?_
  rintro e wp ⟨b, p, rfl, hb, hp⟩
  clear hp
  have hc := hb.holds.cell
  go_wp2_with fail
  refine (build8 _ _ _ _ w1 _).mono ?_
  rintro e wr ⟨c, q, rfl, hr, hq⟩
  clear hq
  have hP : Holds34 wr b p := (hb.holds.alloc _).grown hr.grown
  have hQ : Holds34 wr wp.heap.size p := (Holds34.new _ _).grown hr.grown
  have hR : Holds34 wr c q := hr.holds
  have hpq : b ≠ wp.heap.size := Nat.ne_of_lt hb.holds.lt
  have hpr : b ≠ c := by have h1 := hb.holds.lt; have h2 := hr.fresh; simp at h2; omega
  have hG : Grown w wr := grown_trans (hb.grown.alloc _ _) hr.grown
  clear hb hr hc
  go_wp2_with fail
  refine (equals13_same _ _).mono ?_
  rintro e w' ⟨rfl, hw⟩
  cases hw
  go_wp2_with fail
  refine (equals13_same _ _).mono ?_
  rintro e w' ⟨rfl, hw⟩
  cases hw
  go_wp2_with fail
  refine (equals13_same _ _).mono ?_
  rintro e w' ⟨rfl, hw⟩
  cases hw
  go_wp2_with fail
  refine (equals13_other _ hP hQ hpq).mono ?_
  rintro e w' ⟨rfl, hw⟩
  cases hw
  go_wp2_with fail
  refine (equals13_other _ hQ hP hpq.symm).mono ?_
  rintro e w' ⟨rfl, hw⟩
  cases hw
  go_wp2_with fail
  refine (equals13_other _ hP hR hpr).mono ?_
  rintro e w' ⟨rfl, hw⟩
  cases hw
  go_wp2_with fail
  refine (equals13_other _ hR hP hpr.symm).mono ?_
  rintro e w' ⟨rfl, hw⟩
  cases hw
  go_wp2_with fail
  refine (equals13_nil _ _).mono ?_
  rintro e w' ⟨rfl, hw⟩
  cases hw
  go_wp2_with fail
  refine (copy10 _ _).mono ?_
  rintro e w' ⟨rfl, hw⟩
  cases hw
  go_wp2_with fail
  refine (equals13_same _ _).mono ?_
  rintro e w' ⟨rfl, hw⟩
  cases hw
  go_wp2_with fail
  refine (equals13_same _ _).mono ?_
  rintro e w' ⟨rfl, hw⟩
  cases hw
  go_wp2_with fail
  go_ret
  exact ⟨rfl, hG⟩

/-! ### THE WALK: the Go text returns true; the world has at most new blocks -/
theorem walk (a0 : Bool) (a1 : Int) (a2 : Int) (a3 : ByteArray) (w1 : (Lit.int .u8 a1).wf = true) (w2 : (Lit.int .i64 a2).wf = true) (w3 : a3.size ≤ maxLen) (w : World) :
    Calls Ecsg.prog 5 #[.bool a0, .int .u8 a1, .int .i64 a2, .string a3] w fun e w' => e = .returned (.bool true) ∧ Grown w w' := by
  by_cases h1 : 1048576 < (a3.size : Int)
  · go_enter Ecsg.func5, Ecsg.ntmps5
    go_wp2_with fail
    refine (bytes_big _ _ _ _ h1 _).mono ?_
    rintro e w' ⟨rfl, rfl⟩
    go_wp2_with fail
    go_ret
    exact ⟨rfl, Grown.refl _⟩
  · by_cases h2 : 65536 < (a3.size : Int)
    · go_enter Ecsg.func5, Ecsg.ntmps5
      go_wp2_with fail
      refine (bytes_small _ _ _ _ (by omega) _).mono ?_
      rintro e w' ⟨rfl, rfl⟩
      go_wp2_with fail
      go_ret
      exact ⟨rfl, Grown.refl _⟩
    · exact walk_small a0 a1 a2 a3 w1 (by omega) w

/-! ### THE ROW's STEP: WRITTEN OUT: LEAVE IT -/
set_option maxRecDepth 100000 in
theorem lifted (os : Os) (started : os.Started) (H : Type) (enc : TypeId × Value → H) :
    ReturnsInHanded {} Ecsg.checked os 5 .any (Rows.fnObjectPtrEqualsIsIdentitySpec.pre6 enc Ecsg.prog Ecsg.f5 Rows.fnObjectPtrEqualsIsIdentityRow.domain false) (Rows.fnObjectPtrEqualsIsIdentitySpec.post enc Ecsg.prog Ecsg.f5 false true false false) := by
  refine returnsInHanded_of_change (C := Ecsg.checked) own started (by kernel_rfl) Ecsg.func5
    (ChangeSpec.witness6 (enc := enc) (C := Ecsg.checked) false ⟨#[], #[.bool false, .int .u8 0, .int .i64 0, .string ByteArray.empty], []⟩ 8 (by kernel_rfl) (by kernel_rfl) (by kernel_rfl) (by kernel_rfl)) ?_
  intro W base args ds gs before hval0 hW hcnd _
  have hval : ∀ (j : Nat) t v, Ecsg.f5.params[j]? = some t → args[j]? = some v → Value.okWide Ecsg.prog W .any base t v := hval0
  have hW' := hW
  obtain ⟨p, q, hA0, hV, rfl, hfz, hnd⟩ := hW
  have hA : DataW.TrodAll enc Ecsg.prog W 0 (fun _ => true) true Ecsg.f5.params.toList args.toList ds p := hA0
  rw [Ecsg.params5] at hA hval
  obtain ⟨v0, vs0, d0, ds0, p0, q0, hargs, rfl, rfl, h0, r0⟩ := trodAll_cons hA
  obtain ⟨v1, vs1, d1, ds1, p1, q1, rfl, rfl, rfl, h1, r1⟩ := trodAll_cons r0
  obtain ⟨v2, vs2, d2, ds2, p2, q2, rfl, rfl, rfl, h2, r2⟩ := trodAll_cons r1
  obtain ⟨v3, vs3, d3, ds3, p3, q3, rfl, rfl, rfl, h3, r3⟩ := trodAll_cons r2
  obtain ⟨rfl, rfl, rfl⟩ := trodAll_nil r3
  obtain rfl : args = #[v0, v1, v2, v3] := by cases args; simp_all
  obtain ⟨rfl, rfl⟩ := trodVars_none hV
  obtain ⟨a0, rfl, rfl, rfl⟩ := open_bool Ecsg.underlying4 (hval 0 4 v0 rfl rfl) h0
  obtain ⟨a1, rfl, rfl, rfl, w1⟩ := open_int Ecsg.underlying5 (hval 1 5 v1 rfl rfl) h1
  obtain ⟨a2, rfl, rfl, rfl, w2⟩ := open_int Ecsg.underlying2 (hval 2 2 v2 rfl rfl) h2
  obtain ⟨a3, rfl, rfl, rfl, w3⟩ := open_string Ecsg.underlying9 (hval 3 9 v3 rfl rfl) h3
  clear hA0 hval0
  simp only [List.append_nil] at hW'
  refine (walk a0 a1 a2 a3 w1 w2 w3 W).mono fun e W' ⟨he, hg⟩ => ?_
  subst he
  exact ⟨_, rfl, post_of_same (pa := []) (pv := []) hW' (fun _ _ _ => (trodAll_cons_mk (shut_bool Ecsg.underlying4 _) trodAll_mk0)) (fun sp _ => (trodAll_cons_mk (shut_bool Ecsg.underlying4 _) (trodAll_cons_mk (shut_int Ecsg.underlying5 w1) (trodAll_cons_mk (shut_int Ecsg.underlying2 w2) (trodAll_cons_mk (shut_string Ecsg.underlying9 w3) trodAll_mk0))))) (fun _ _ => rfl) rfl
    (hg.frame _) hg.2.1 (ok_one (by kernel_rfl) rfl (okWide_bool_mk Ecsg.underlying4 _))⟩

theorem over : Rows.fnObjectPtrEqualsIsIdentityRow.holds Ecsg.pinned (OpenSpec.ofChange Rows.fnObjectPtrEqualsIsIdentitySpec) :=
  OpenClaim.holds_of_wide 5 Ecsg.f5 rfl rfl rfl rfl rfl rfl rfl ⟨rfl, rfl, rfl, rfl, rfl⟩ rfl rfl rfl rfl rfl (by kernel_rfl) Ecsg.func5 (by kernel_rfl)
    (of_decide_eq_true (by kernel_rfl)) (by unfold Func.isWrapper; first | (rw [if_pos (by decide +kernel)]; kernel_rfl) | (rw [if_neg (by decide +kernel)]; exact ⟨rfl, rfl⟩))
    (fun os started H enc _ => lifted os started H enc)

/-- ████ THE STATEMENT ████ -/
theorem proved : Rows.FnObjectPtrEqualsIsIdentitySaid :=
  over
end Go.Proofs.Yoecsw.fnObjectPtrEqualsIsIdentity
