/-
  THE PROOF OF 'Rows.FnObjectPtrIsFalsyFollowsThePointerSaid': the guide's template at this function's number and types; the walk is ours.
-/
import Derived.Test.YoecswRows
import Derived.WalkKit
import Derived.ProofKit
import Derived.OpenShut
import Derived.ShutString
import Derived.Test.YoecswPtrWalks
namespace Go.Proofs.Yoecsw.fnObjectPtrIsFalsyFollowsThePointer
open Go.ChangeShapes Go.WideShapes Go.ChangeAt Go.RowKit
open Go.ChangeMaps (open_string shut_string)
open Go.Proofs.Yoecsw.ptr
set_option linter.unusedVariables false      -- a walk need not use every 'w<i>' (that an integer argument fits its kind)

theorem own : ownKnob Ecsg.prog.godebug = none := by kernel_rfl

/-! ### 'zzBytes_..': is the string's length at most 1048576? -/
theorem bytes_small (a0 : Int) (a1 : Int) (a2 : ByteArray) (h : (a2.size : Int) ≤ 1048576) (w : World) :
    Calls Ecsg.prog 11 #[.int .u8 a0, .int .i64 a1, .string a2] w fun e w' => e = .returned (.bool true) ∧ w' = w := by
  go_enter Ecsg.func11, Ecsg.ntmps11
  go_wp2
  go_ret
  exact ⟨rfl, rfl⟩

theorem bytes_big (a0 : Int) (a1 : Int) (a2 : ByteArray) (h : 1048576 < (a2.size : Int)) (w : World) :
    Calls Ecsg.prog 11 #[.int .u8 a0, .int .i64 a1, .string a2] w fun e w' => e = .returned (.bool false) ∧ w' = w := by
  go_enter Ecsg.func11, Ecsg.ntmps11
  go_wp2
  go_ret
  exact ⟨rfl, rfl⟩

set_option maxHeartbeats 400000 in
theorem walk_small (a0 : Int) (a1 : Int) (a2 : ByteArray) (w0 : (Lit.int .u8 a0).wf = true) (h : (a2.size : Int) ≤ 65536) (w : World) :
    Calls Ecsg.prog 4 #[.int .u8 a0, .int .i64 a1, .string a2] w fun e w' => e = .returned (.bool true) ∧ Grown w w' := by
  have hmf := method_falsy
  go_enter Ecsg.func4, Ecsg.ntmps4
  go_wp2_with fail
  refine (bytes_small _ _ _ (by omega) _).mono ?_
  rintro e w' ⟨rfl, hw⟩
  cases hw
  go_wp2_with fail
  refine (build8_some _ _ _ w0 _).mono ?_
  rintro e w1 ⟨b, a, rfl, hb⟩
  have hc := hb.holds.cell
  go_wp2_with fail
  refine (copy10 _ _).mono ?_
  rintro e w2 ⟨rfl, hw⟩
  have hP : Holds34 w2 b (some a) := by rw [hw]; exact hb.holds.alloc _
  have hQ : Holds34 w2 w1.heap.size (some a) := by rw [hw]; exact Holds34.new _ _
  have hn : b ≠ w1.heap.size := Nat.ne_of_lt hb.holds.lt
  have hG : Grown w w2 := by rw [hw]; exact hb.grown.alloc _ _
  have hf := hb.fresh
  have hc2 := hP.cell
  have hs2 := hP.soft
  clear hw hb hc
  go_wp2_with fail
  refine (falsy9 hP).mono ?_
  rintro e w' ⟨rfl, hw⟩
  cases hw
  go_wp2_with fail
  refine (falsy9 hQ).mono ?_
  rintro e w' ⟨rfl, hw⟩
  cases hw
  go_wp2_with fail
  refine (falsy9 hP).mono ?_
  rintro e w' ⟨rfl, hw⟩
  cases hw
  go_wp2_with fail
  refine (falsy9 (hP.set none)).mono ?_
  rintro e w3 ⟨rfl, hw⟩
  have hP3 : Holds34 w3 b none := by rw [hw]; exact hP.set _
  have hQ3 : Holds34 w3 w1.heap.size (some a) := by rw [hw]; exact hQ.setOther hn _
  have hG3 : Grown w w3 := by rw [hw]; exact hG.setCell hf _
  have hc3 := hP3.cell
  have hs3 := hP3.soft
  clear hw hG hc2 hs2 hP hQ
  go_wp2_with fail
  refine (falsy9 hP3).mono ?_
  rintro e w' ⟨rfl, hw⟩
  cases hw
  go_wp2_with fail
  refine (falsy9 hQ3).mono ?_
  rintro e w' ⟨rfl, hw⟩
  cases hw
  go_wp2_with fail
  refine (falsy9 (hP3.set (some a))).mono ?_
  rintro e w4 ⟨rfl, hw⟩
  have hP4 : Holds34 w4 b (some a) := by rw [hw]; exact hP3.set _
  have hQ4 : Holds34 w4 w1.heap.size (some a) := by rw [hw]; exact hQ3.setOther hn _
  have hG4 : Grown w w4 := by rw [hw]; exact hG3.setCell hf _
  clear hw hG3 hc3 hs3 hP3 hQ3
  go_wp2_with fail
  refine (falsy9 hP4).mono ?_
  rintro e w' ⟨rfl, hw⟩
  cases hw
  go_wp2_with fail
  refine (falsy9 hQ4).mono ?_
  rintro e w' ⟨rfl, hw⟩
  cases hw
  go_wp2_with fail
  go_ret
  exact ⟨rfl, hG4⟩

/-! ### THE WALK: the Go text returns true; the world has at most new blocks -/
theorem walk (a0 : Int) (a1 : Int) (a2 : ByteArray) (w0 : (Lit.int .u8 a0).wf = true) (w1 : (Lit.int .i64 a1).wf = true) (w2 : a2.size ≤ maxLen) (w : World) :
    Calls Ecsg.prog 4 #[.int .u8 a0, .int .i64 a1, .string a2] w fun e w' => e = .returned (.bool true) ∧ Grown w w' := by
  by_cases h1 : 1048576 < (a2.size : Int)
  · go_enter Ecsg.func4, Ecsg.ntmps4
    go_wp2_with fail
    refine (bytes_big _ _ _ h1 _).mono ?_
    rintro e w' ⟨rfl, rfl⟩
    go_wp2_with fail
    go_ret
    exact ⟨rfl, Grown.refl _⟩
  · by_cases h2 : 65536 < (a2.size : Int)
    · go_enter Ecsg.func4, Ecsg.ntmps4
      go_wp2_with fail
      refine (bytes_small _ _ _ (by omega) _).mono ?_
      rintro e w' ⟨rfl, rfl⟩
      go_wp2_with fail
      go_ret
      exact ⟨rfl, Grown.refl _⟩
    · exact walk_small a0 a1 a2 w0 (by omega) w

/-! ### THE ROW's STEP: WRITTEN OUT: LEAVE IT -/
set_option maxRecDepth 100000 in
theorem lifted (os : Os) (started : os.Started) (H : Type) (enc : TypeId × Value → H) :
    ReturnsInHanded {} Ecsg.checked os 4 .any (Rows.fnObjectPtrIsFalsyFollowsThePointerSpec.pre6 enc Ecsg.prog Ecsg.f4 Rows.fnObjectPtrIsFalsyFollowsThePointerRow.domain false) (Rows.fnObjectPtrIsFalsyFollowsThePointerSpec.post enc Ecsg.prog Ecsg.f4 false true false false) := by
  refine returnsInHanded_of_change (C := Ecsg.checked) own started (by kernel_rfl) Ecsg.func4
    (ChangeSpec.witness6 (enc := enc) (C := Ecsg.checked) false ⟨#[], #[.int .u8 0, .int .i64 0, .string ByteArray.empty], []⟩ 8 (by kernel_rfl) (by kernel_rfl) (by kernel_rfl) (by kernel_rfl)) ?_
  intro W base args ds gs before hval0 hW hcnd _
  have hval : ∀ (j : Nat) t v, Ecsg.f4.params[j]? = some t → args[j]? = some v → Value.okWide Ecsg.prog W .any base t v := hval0
  have hW' := hW
  obtain ⟨p, q, hA0, hV, rfl, hfz, hnd⟩ := hW
  have hA : DataW.TrodAll enc Ecsg.prog W 0 (fun _ => true) true Ecsg.f4.params.toList args.toList ds p := hA0
  rw [Ecsg.params4] at hA hval
  obtain ⟨v0, vs0, d0, ds0, p0, q0, hargs, rfl, rfl, h0, r0⟩ := trodAll_cons hA
  obtain ⟨v1, vs1, d1, ds1, p1, q1, rfl, rfl, rfl, h1, r1⟩ := trodAll_cons r0
  obtain ⟨v2, vs2, d2, ds2, p2, q2, rfl, rfl, rfl, h2, r2⟩ := trodAll_cons r1
  obtain ⟨rfl, rfl, rfl⟩ := trodAll_nil r2
  obtain rfl : args = #[v0, v1, v2] := by cases args; simp_all
  obtain ⟨rfl, rfl⟩ := trodVars_none hV
  obtain ⟨a0, rfl, rfl, rfl, w0⟩ := open_int Ecsg.underlying5 (hval 0 5 v0 rfl rfl) h0
  obtain ⟨a1, rfl, rfl, rfl, w1⟩ := open_int Ecsg.underlying2 (hval 1 2 v1 rfl rfl) h1
  obtain ⟨a2, rfl, rfl, rfl, w2⟩ := open_string Ecsg.underlying9 (hval 2 9 v2 rfl rfl) h2
  clear hA0 hval0
  simp only [List.append_nil] at hW'
  refine (walk a0 a1 a2 w0 w1 w2 W).mono fun e W' ⟨he, hg⟩ => ?_
  subst he
  exact ⟨_, rfl, post_of_same (pa := []) (pv := []) hW' (fun _ _ _ => (trodAll_cons_mk (shut_bool Ecsg.underlying4 _) trodAll_mk0)) (fun sp _ => (trodAll_cons_mk (shut_int Ecsg.underlying5 w0) (trodAll_cons_mk (shut_int Ecsg.underlying2 w1) (trodAll_cons_mk (shut_string Ecsg.underlying9 w2) trodAll_mk0)))) (fun _ _ => rfl) rfl
    (hg.frame _) hg.2.1 (ok_one (by kernel_rfl) rfl (okWide_bool_mk Ecsg.underlying4 _))⟩

theorem over : Rows.fnObjectPtrIsFalsyFollowsThePointerRow.holds Ecsg.pinned (OpenSpec.ofChange Rows.fnObjectPtrIsFalsyFollowsThePointerSpec) :=
  OpenClaim.holds_of_wide 4 Ecsg.f4 rfl rfl rfl rfl rfl rfl rfl ⟨rfl, rfl, rfl, rfl, rfl⟩ rfl rfl rfl rfl rfl (by kernel_rfl) Ecsg.func4 (by kernel_rfl)
    (of_decide_eq_true (by kernel_rfl)) (by unfold Func.isWrapper; first | (rw [if_pos (by decide +kernel)]; kernel_rfl) | (rw [if_neg (by decide +kernel)]; exact ⟨rfl, rfl⟩))
    (fun os started H enc _ => lifted os started H enc)

/-- ████ THE STATEMENT ████ -/
theorem proved : Rows.FnObjectPtrIsFalsyFollowsThePointerSaid :=
  over
end Go.Proofs.Yoecsw.fnObjectPtrIsFalsyFollowsThePointer
