/-
  THE SHARED WALKS: the functions that the four laws on ObjectPtr come to, one contract each.
-/
import Derived.Test.YoecswRows
import Derived.WalkKit
import Derived.ProofKit
import Derived.OpenShut
import Derived.ShutString
import Derived.LaidEql
namespace Go.Proofs.Yoecsw.ptr
open Go.ChangeShapes Go.WideShapes Go.ChangeAt Go.RowKit

/-- a block of its own, the one cell of an ObjectPtr, bears the pointer 'p' -/
def Holds34 (w : World) (b : Nat) (p : Option Addr) : Prop := w.heap[b]? = some (.cells #[.pointer p] 34)

/-- the world behind a builder of an ObjectPtr: nothing old has turned; a new block 'b' bears 'p' -/
structure Built (w w' : World) (b : Nat) (p : Option Addr) : Prop where
  grown : Grown w w'
  fresh : w.heap.size ≤ b
  holds : Holds34 w' b p

theorem Holds34.lt {w : World} {b : Nat} {p : Option Addr} (h : Holds34 w b p) : b < w.heap.size := by
  unfold Holds34 at h
  by_cases hb : b < w.heap.size
  · exact hb
  · rw [Array.getElem?_eq_none (by omega)] at h; cases h

theorem Holds34.cell {w : World} {b : Nat} {p : Option Addr} (h : Holds34 w b p) : w.cell? ⟨b, 0, none⟩ = some (.pointer p) := by
  unfold Holds34 at h
  simp [World.cell?, h]

theorem Holds34.soft {w : World} {b : Nat} {p : Option Addr} (h : Holds34 w b p) : w.frozen? ⟨b, 0, none⟩ = false := by
  unfold Holds34 at h
  simp [World.frozen?, h]

theorem Holds34.alloc {w : World} {b : Nat} {p : Option Addr} (h : Holds34 w b p) (o : Obj) : Holds34 (w.alloc o) b p := by
  have hl := h.lt
  unfold Holds34 at *
  show (w.heap.push o)[b]? = _
  rw [Array.getElem?_push, if_neg (by omega)]
  exact h

theorem Holds34.new (w : World) (p : Option Addr) : Holds34 (w.alloc (.cells #[.pointer p] 34)) w.heap.size p := by
  show (w.heap.push _)[w.heap.size]? = _
  rw [Array.getElem?_push, if_pos rfl]

theorem Holds34.grown {w w' : World} {b : Nat} {p : Option Addr} (h : Holds34 w b p) (hg : Grown w w') : Holds34 w' b p := by
  have hl := h.lt
  have hk := hg.1.2.2 b hl
  unfold Holds34 at *
  rw [h] at hk
  cases ho : w'.heap[b]? with
  | none => rw [ho] at hk; cases hk
  | some o =>
    rw [ho] at hk
    cases o with
    | cells c t fr =>
      obtain ⟨ht, hf, hs, hc⟩ := hk
      have he : c = #[.pointer p] := Array.ext_getElem? fun j => hc j (fun f => f)
      rw [he, ht, hf]
    | _ => cases hk

theorem Holds34.set {w : World} {b : Nat} {p : Option Addr} (h : Holds34 w b p) (q : Option Addr) : Holds34 (w.setCell ⟨b, 0, none⟩ (.pointer q)) b q := by
  unfold Holds34 at *
  simp [World.setCell, Array.getElem?_modify, h]

theorem Holds34.setOther {w : World} {b c : Nat} {p : Option Addr} (h : Holds34 w b p) (hn : c ≠ b) (v : Value) : Holds34 (w.setCell ⟨c, 0, none⟩ v) b p := by
  unfold Holds34 at *
  simp [World.setCell, Array.getElem?_modify, hn, h]

theorem Built.of_alloc {w w0 : World} (h : Grown w w0) (p : Option Addr) {b : Nat} (hb : w0.heap.size = b) : Built w (w0.alloc (.cells #[.pointer p] 34)) b p := by
  subst hb
  exact ⟨h.alloc _ _, h.2.2, Holds34.new _ _⟩

/-! ### the facts that the walks take off the program's tables -/

theorem method_falsy (b : Nat) (w : World) : (method 186 23 (.pointer (some ⟨b, 0, none⟩)) "IsFalsy").run Ecsg.prog w = .ok (9, .pointer (some ⟨b, 0, none⟩)) w := by kernel_rfl
theorem method_equals (b : Nat) (w : World) : (method 186 23 (.pointer (some ⟨b, 0, none⟩)) "Equals").run Ecsg.prog w = .ok (13, .pointer (some ⟨b, 0, none⟩)) w := by kernel_rfl
theorem eql_39 (a c : Addr) (w : World) : (binOp .eql 27 (.iface 23 (.pointer (some a))) (.iface 39 (.pointer (some c)))).run Ecsg.prog w = .ok (.bool false) w := by kernel_rfl
theorem eql_42 (a c : Addr) (w : World) : (binOp .eql 27 (.iface 23 (.pointer (some a))) (.iface 42 (.pointer (some c)))).run Ecsg.prog w = .ok (.bool false) w := by kernel_rfl
theorem eql_46 (a c : Addr) (w : World) : (binOp .eql 27 (.iface 23 (.pointer (some a))) (.iface 46 (.pointer (some c)))).run Ecsg.prog w = .ok (.bool false) w := by kernel_rfl
theorem eql_49 (a c : Addr) (w : World) : (binOp .eql 27 (.iface 23 (.pointer (some a))) (.iface 49 (.pointer (some c)))).run Ecsg.prog w = .ok (.bool false) w := by kernel_rfl
theorem eql_49_23 (a c : Addr) (w : World) : (binOp .eql 27 (.iface 49 (.pointer (some a))) (.iface 23 (.pointer (some c)))).run Ecsg.prog w = .ok (.bool false) w := by kernel_rfl
theorem assert_39 (a : Addr) (w : World) : (Instr.typeAssert (.iface 23 (.pointer (some a))) 27 39 true).run Ecsg.prog w = .ok (.tuple #[.pointer none, .bool false]) w := by kernel_rfl
theorem assert_42 (a : Addr) (w : World) : (Instr.typeAssert (.iface 23 (.pointer (some a))) 27 42 true).run Ecsg.prog w = .ok (.tuple #[.pointer none, .bool false]) w := by kernel_rfl
theorem assert_46 (a : Addr) (w : World) : (Instr.typeAssert (.iface 23 (.pointer (some a))) 27 46 true).run Ecsg.prog w = .ok (.tuple #[.pointer none, .bool false]) w := by kernel_rfl
theorem eql_same (a : Addr) (w : World) : (binOp .eql 27 (.iface 23 (.pointer (some a))) (.iface 23 (.pointer (some a)))).run Ecsg.prog w = .ok (.bool true) w :=
  run_eql_iface_ptr_same w a Ecsg.underlying27 Ecsg.underlying23 rfl rfl rfl
theorem eql_other {b c : Nat} {p q : Option Addr} (w : World) (hb : Holds34 w b p) (hc : Holds34 w c q) (hn : b ≠ c) :
    (binOp .eql 27 (.iface 23 (.pointer (some ⟨b, 0, none⟩))) (.iface 23 (.pointer (some ⟨c, 0, none⟩)))).run Ecsg.prog w = .ok (.bool false) w :=
  run_eql_iface_ptr_other w Ecsg.underlying27 Ecsg.underlying23 rfl rfl rfl (by decide) (fun h => hn (by injection h)) hb hc

/-! ### the methods of ObjectPtr -/

set_option maxHeartbeats 400000 in
theorem falsy9 {b : Nat} {p : Option Addr} {w : World} (h : Holds34 w b p) :
    Calls Ecsg.prog 9 #[.pointer (some ⟨b, 0, none⟩)] w fun e w' => e = .returned (.bool p.isNone) ∧ w' = w := by
  have hc := h.cell
  clear h
  cases p with
  | none =>
    go_enter Ecsg.func9, Ecsg.ntmps9
    go_wp2
    go_ret
    exact ⟨rfl, rfl⟩
  | some a =>
    go_enter Ecsg.func9, Ecsg.ntmps9
    go_wp2
    go_ret
    exact ⟨rfl, rfl⟩

theorem copy10 (b : Nat) (w : World) :
    Calls Ecsg.prog 10 #[.pointer (some ⟨b, 0, none⟩)] w fun e w' => e = .returned (.iface 23 (.pointer (some ⟨b, 0, none⟩))) ∧ w' = w := by
  go_enter Ecsg.func10, Ecsg.ntmps10
  go_wp2
  go_ret
  exact ⟨rfl, rfl⟩

theorem equals13_same (b : Nat) (w : World) :
    Calls Ecsg.prog 13 #[.pointer (some ⟨b, 0, none⟩), .iface 23 (.pointer (some ⟨b, 0, none⟩))] w fun e w' => e = .returned (.bool true) ∧ w' = w := by
  have he := eql_same
  go_enter Ecsg.func13, Ecsg.ntmps13
  go_wp2
  go_ret
  exact ⟨rfl, rfl⟩

theorem equals13_other {b c : Nat} {p q : Option Addr} (w : World) (hb : Holds34 w b p) (hc : Holds34 w c q) (hn : b ≠ c) :
    Calls Ecsg.prog 13 #[.pointer (some ⟨b, 0, none⟩), .iface 23 (.pointer (some ⟨c, 0, none⟩))] w fun e w' => e = .returned (.bool false) ∧ w' = w := by
  have he := eql_other w hb hc hn
  clear hb hc hn
  go_enter Ecsg.func13, Ecsg.ntmps13
  go_wp2
  go_ret
  exact ⟨rfl, rfl⟩

theorem equals13_nil (b : Nat) (w : World) :
    Calls Ecsg.prog 13 #[.pointer (some ⟨b, 0, none⟩), .nilIface] w fun e w' => e = .returned (.bool false) ∧ w' = w := by
  go_enter Ecsg.func13, Ecsg.ntmps13
  go_wp2
  go_ret
  exact ⟨rfl, rfl⟩

/-! ### the builders -/

theorem toInt15 (v : Int) (w : World) :
    Calls Ecsg.prog 15 #[.int .i64 v] w fun e w' => ∃ b a, e = .returned (.pointer (some ⟨b, 0, none⟩)) ∧ Built w w' b (some a) := by
  go_enter Ecsg.func15, Ecsg.ntmps15
  go_wp2
  go_ret
  exact ⟨_, _, rfl, Built.of_alloc (((Grown.refl _).alloc _ _).alloc _ _) _ (by simp)⟩

theorem toString16 (s : ByteArray) (w : World) :
    Calls Ecsg.prog 16 #[.string s] w fun e w' => ∃ b a, e = .returned (.pointer (some ⟨b, 0, none⟩)) ∧ Built w w' b (some a) := by
  go_enter Ecsg.func16, Ecsg.ntmps16
  go_wp2
  go_ret
  exact ⟨_, _, rfl, Built.of_alloc (((Grown.refl _).alloc _ _).alloc _ _) _ (by simp)⟩

theorem toUndefined18 (w : World) :
    Calls Ecsg.prog 18 #[] w fun e w' => ∃ b a, e = .returned (.pointer (some ⟨b, 0, none⟩)) ∧ Built w w' b (some a) := by
  go_enter Ecsg.func18, Ecsg.ntmps18
  go_wp2
  go_ret
  exact ⟨_, _, rfl, Built.of_alloc (((Grown.refl _).alloc _ _).alloc _ _) _ (by simp)⟩

theorem toNil19 (w : World) :
    Calls Ecsg.prog 19 #[] w fun e w' => ∃ b a, e = .returned (.pointer (some ⟨b, 0, none⟩)) ∧ Built w w' b (some a) := by
  go_enter Ecsg.func19, Ecsg.ntmps19
  go_wp2
  go_ret
  exact ⟨_, _, rfl, Built.of_alloc ((Grown.refl _).alloc _ _) _ (by simp)⟩

set_option maxHeartbeats 400000 in
theorem build8_none (a1 : Int) (a2 : Int) (a3 : ByteArray) (w : World) :
    Calls Ecsg.prog 8 #[.bool false, .int .u8 a1, .int .i64 a2, .string a3] w fun e w' => ∃ b, e = .returned (.pointer (some ⟨b, 0, none⟩)) ∧ Built w w' b none := by
  go_enter Ecsg.func8, Ecsg.ntmps8
  go_wp2
  go_ret
  exact ⟨_, rfl, Built.of_alloc (Grown.refl _) _ rfl⟩

set_option maxHeartbeats 400000 in
theorem build8_some (a1 : Int) (a2 : Int) (a3 : ByteArray) (w1 : (Lit.int .u8 a1).wf = true) (w : World) :
    Calls Ecsg.prog 8 #[.bool true, .int .u8 a1, .int .i64 a2, .string a3] w fun e w' => ∃ b a, e = .returned (.pointer (some ⟨b, 0, none⟩)) ∧ Built w w' b (some a) := by
  obtain ⟨h0, h1⟩ := bounds_u8 w1
  clear w1
  have hm : a1 % 4 = 0 ∨ a1 % 4 = 1 ∨ a1 % 4 = 2 ∨ a1 % 4 = 3 := by omega
  rcases hm with hm | hm | hm | hm
  all_goals
    go_enter Ecsg.func8, Ecsg.ntmps8
    go_wp2_with (first | (go_at_call 15; refine (toInt15 _ _).mono ?_; rintro e w' ⟨b, a, rfl, hb⟩) | (go_at_call 16; refine (toString16 _ _).mono ?_; rintro e w' ⟨b, a, rfl, hb⟩) | (go_at_call 18; refine (toUndefined18 _).mono ?_; rintro e w' ⟨b, a, rfl, hb⟩) | (go_at_call 19; refine (toNil19 _).mono ?_; rintro e w' ⟨b, a, rfl, hb⟩))
    go_ret
    exact ⟨_, _, rfl, hb⟩

/-- whatever 'present' is: a pointer with a cell exactly when it is true -/
theorem build8 (a0 : Bool) (a1 : Int) (a2 : Int) (a3 : ByteArray) (w1 : (Lit.int .u8 a1).wf = true) (w : World) :
    Calls Ecsg.prog 8 #[.bool a0, .int .u8 a1, .int .i64 a2, .string a3] w fun e w' => ∃ b p, e = .returned (.pointer (some ⟨b, 0, none⟩)) ∧ Built w w' b p ∧ p.isNone = !a0 := by
  cases a0 with
  | false => exact (build8_none a1 a2 a3 w).mono fun e w' ⟨b, he, hb⟩ => ⟨b, _, he, hb, rfl⟩
  | true => exact (build8_some a1 a2 a3 w1 w).mono fun e w' ⟨b, a, he, hb⟩ => ⟨b, _, he, hb, rfl⟩

end Go.Proofs.Yoecsw.ptr
