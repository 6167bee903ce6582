/-
  THE CONTRACTS OF THE METHODS ON THE FOUR LAWS' ROADS, over seat oebf's given translation: (*Char).Equals (10), (*Int).Equals (15), (*Char).Copy (9), (*Char).IsFalsy (16), (*Int).IsFalsy (17), each walked once; and what each type assertion on the road answers.
-/
import Derived.Test.YoebfwRows
import Derived.WalkKit
import Derived.ProofKit
import Derived.WalkSpells
import Derived.WalkLawsBesides
import Derived.Deep.QuietTactic
import Derived.BigQuiet
namespace Go.Proofs.Yoebfw
open Go.RowKit

/-- Draws turn nothing of what is there. -/
theorem grown_drewN {W w' : World} (h : Grown W w') (n : Nat) : Grown W (w'.drewN n) := h

theorem as_char (v : Value) (w : World) : (Instr.typeAssert (.iface 22 v) 28 22 true).run Ebfg.prog w = .ok (.tuple #[v, .bool true]) w := by kernel_rfl
theorem as_int_char (v : Value) (w : World) : (Instr.typeAssert (.iface 43 v) 28 22 true).run Ebfg.prog w = .ok (.tuple #[.pointer none, .bool false]) w := by kernel_rfl
theorem as_float_char (v : Value) (w : World) : (Instr.typeAssert (.iface 46 v) 28 22 true).run Ebfg.prog w = .ok (.tuple #[.pointer none, .bool false]) w := by kernel_rfl
theorem as_string_char (v : Value) (w : World) : (Instr.typeAssert (.iface 50 v) 28 22 true).run Ebfg.prog w = .ok (.tuple #[.pointer none, .bool false]) w := by kernel_rfl
theorem as_nil_char (w : World) : (Instr.typeAssert .nilIface 28 22 true).run Ebfg.prog w = .ok (.tuple #[.pointer none, .bool false]) w := by kernel_rfl
theorem as_char_int (v : Value) (w : World) : (Instr.typeAssert (.iface 22 v) 28 43 true).run Ebfg.prog w = .ok (.tuple #[.pointer none, .bool false]) w := by kernel_rfl

/-! ### A method called through the interface, its dynamic type being *Char: which function it is. -/
theorem m_equals (a : Addr) (w : World) : (method 202 22 (.pointer (some a)) "Equals").run Ebfg.prog w = .ok (10, .pointer (some a)) w := by kernel_rfl
theorem m_copy (a : Addr) (w : World) : (method 202 22 (.pointer (some a)) "Copy").run Ebfg.prog w = .ok (9, .pointer (some a)) w := by kernel_rfl
theorem m_falsy (a : Addr) (w : World) : (method 202 22 (.pointer (some a)) "IsFalsy").run Ebfg.prog w = .ok (16, .pointer (some a)) w := by kernel_rfl

/-! ### The contracts. -/
theorem equals_char (b c : Nat) (x y : Int) (w : World) (hb : w.cell? ⟨b, 0, none⟩ = some (.int .i32 x)) (hc : w.cell? ⟨c, 0, none⟩ = some (.int .i32 y)) :
    Calls Ebfg.prog 10 #[.pointer (some ⟨b, 0, none⟩), .iface 22 (.pointer (some ⟨c, 0, none⟩))] w fun e w' => e = .returned (.bool (x == y)) ∧ ∃ n, w' = w.drewN n := by
  have ta := as_char
  go_enter Ebfg.func10, Ebfg.ntmps10
  go_wp2
  go_quiet (fail)
  go_wp2
  go_ret
  exact ⟨rfl, _, rfl⟩

theorem equals_other (p : Value) (t : Nat) (v : Value) (w : World) (ht : t = 43 ∨ t = 46 ∨ t = 50) :
    Calls Ebfg.prog 10 #[p, .iface t v] w fun e w' => e = .returned (.bool false) ∧ w' = w := by
  have t1 := as_int_char
  have t2 := as_float_char
  have t3 := as_string_char
  rcases ht with rfl | rfl | rfl
  all_goals
    go_enter Ebfg.func10, Ebfg.ntmps10
    go_wp2
    go_ret
    exact ⟨rfl, rfl⟩

theorem equals_nil (p : Value) (w : World) :
    Calls Ebfg.prog 10 #[p, .nilIface] w fun e w' => e = .returned (.bool false) ∧ w' = w := by
  have t1 := as_nil_char
  go_enter Ebfg.func10, Ebfg.ntmps10
  go_wp2
  go_ret
  exact ⟨rfl, rfl⟩

theorem int_equals_char (p : Value) (v : Value) (w : World) :
    Calls Ebfg.prog 15 #[p, .iface 22 v] w fun e w' => e = .returned (.bool false) ∧ w' = w := by
  have t1 := as_char_int
  go_enter Ebfg.func15, Ebfg.ntmps15
  go_wp2
  go_ret
  exact ⟨rfl, rfl⟩

theorem copy_char (b : Nat) (x : Int) (w : World) (hb : w.cell? ⟨b, 0, none⟩ = some (.int .i32 x)) :
    Calls Ebfg.prog 9 #[.pointer (some ⟨b, 0, none⟩)] w fun e w' => e = .returned (.iface 22 (.pointer (some ⟨w.heap.size, 0, none⟩))) ∧ w' = w.alloc (.cells #[.int .i32 x] 26) := by
  go_enter Ebfg.func9, Ebfg.ntmps9
  go_wp2
  go_ret
  exact ⟨rfl, rfl⟩

theorem falsy_char (b : Nat) (x : Int) (w : World) (hb : w.cell? ⟨b, 0, none⟩ = some (.int .i32 x)) :
    Calls Ebfg.prog 16 #[.pointer (some ⟨b, 0, none⟩)] w fun e w' => e = .returned (.bool (x == 0)) ∧ w' = w := by
  go_enter Ebfg.func16, Ebfg.ntmps16
  go_wp2
  go_ret
  exact ⟨rfl, rfl⟩

theorem falsy_int (b : Nat) (x : Int) (w : World) (hb : w.cell? ⟨b, 0, none⟩ = some (.int .i64 x)) :
    Calls Ebfg.prog 17 #[.pointer (some ⟨b, 0, none⟩)] w fun e w' => e = .returned (.bool (x == 0)) ∧ w' = w := by
  go_enter Ebfg.func17, Ebfg.ntmps17
  go_wp2
  go_ret
  exact ⟨rfl, rfl⟩

/-! ### Plain arithmetic: no Go in sight. -/
theorem xor_one_mod (x : Nat) : (x ^^^ 1) % 2 = (x + 1) % 2 := by
  have h := Nat.xor_mod_two_pow (a := x) (b := 1) (n := 1)
  rw [Nat.pow_one] at h
  rw [h]
  rcases Nat.mod_two_eq_zero_or_one x with e | e
  · rw [e, show (x + 1) % 2 = 1 by omega]; rfl
  · rw [e, show (x + 1) % 2 = 0 by omega]; rfl

/-- 'r ^ 1' is never 'r'. -/
theorem xor_one_ne (a : Int) : bits .xor .i32 a 1 ≠ a := by
  show IntKind.i32.wrap ((BitVec.ofInt 32 a ^^^ BitVec.ofInt 32 1).toNat : Int) ≠ a
  have h1 : (BitVec.ofInt 32 1).toNat = 1 := by decide
  rw [BitVec.toNat_xor, h1, BitVec.toNat_ofInt]
  have hx := xor_one_mod (a % ((2 ^ 32 : Nat) : Int)).toNat
  generalize hy : (a % ((2 ^ 32 : Nat) : Int)).toNat ^^^ 1 = y at hx ⊢
  rw [IntKind.wrap_i32]
  omega
end Go.Proofs.Yoebfw
