import Derived.Test.Qxb6601009aFixint
namespace Go.Proofs.Qxb6601009a
open Go.ChangeShapes Go.WideShapes Go.ChangeAt Go.RowKit
set_option linter.unusedVariables false

theorem fixed_empty (r : Nat) (a : Option Addr) (c : Nat) (code : Int) (w : World) (hr : w.cell? ⟨r, 0, none⟩ = some (.slice a 0 c)) :
    Calls Try.prog 14 #[.pointer (some ⟨r, 0, none⟩), .int .u8 code, .int .i64 0] w fun e w' => e = .returned (.tuple #[.int .i64 0, .bool false]) ∧ w' = w := by
  go_enter Try.func14, Try.ntmps14
  go_wp2
  go_ret2
  exact ⟨rfl, rfl⟩

theorem fixed_no (r b off n c : Nat) (z code : Int) (w : World) (hr : w.cell? ⟨r, 0, none⟩ = some (.slice (some ⟨b, off, none⟩) n c)) (hn : 0 < n) (hz : w.cell? ⟨b, off, none⟩ = some (.int .u8 z)) (hi : (bits BinOp.and IntKind.u8 z 240 != code) = true) :
    Calls Try.prog 14 #[.pointer (some ⟨r, 0, none⟩), .int .u8 code, .int .i64 0] w fun e w' => e = .returned (.tuple #[.int .i64 0, .bool false]) ∧ w' = w := by
  have h0 : ((n : Int) == 0) = false := by simp; omega
  go_enter Try.func14, Try.ntmps14
  go_wp2
  go_ret2
  exact ⟨rfl, rfl⟩

theorem fixed_yes (r b off n c : Nat) (z code : Int) (w : World) (hr : w.cell? ⟨r, 0, none⟩ = some (.slice (some ⟨b, off, none⟩) n c)) (hn : 0 < n) (hc : n ≤ c) (hz : w.cell? ⟨b, off, none⟩ = some (.int .u8 z)) (hz0 : 0 ≤ z) (hz1 : z ≤ 255)
    (hf : w.frozen? ⟨r, 0, none⟩ = false) (hi : (bits BinOp.and IntKind.u8 z 240 != code) = false) :
    Calls Try.prog 14 #[.pointer (some ⟨r, 0, none⟩), .int .u8 code, .int .i64 0] w fun e w' => e = .returned (.tuple #[.int .i64 (z % 16), .bool true]) ∧ ∃ a' : Option Addr, w' = w.setCell ⟨r, 0, none⟩ (.slice a' (n - 1) (c - 1)) := by
  have h0 : ((n : Int) == 0) = false := by simp; omega
  go_enter Try.func14, Try.ntmps14
  go_wp2
  · go_ret2
    exact ⟨rfl, _, rfl⟩
  · go_ret2
    exact ⟨rfl, _, rfl⟩

theorem zzfixed_empty (a : Option Addr) (c : Nat) (code : Int) (w : World) :
    Calls Try.prog 11 #[.slice a 0 c, .int .u8 code, .int .i64 0] w fun e w' => e = .returned (.tuple #[.int .i64 0, .bool false, .slice a 0 c]) ∧ Below w.heap.size w w' := by
  go_enter Try.func11, Try.ntmps11
  go_wp2_with (go_at_call 14; refine (fixed_empty _ a c _ _ (by simp)).mono ?_; rintro e w' ⟨rfl, rfl⟩)
  go_quiet (fail)
  go_wp2
  go_ret3
  exact ⟨rfl, below_drewN ((Below.refl _ _).alloc (Nat.le_refl _) _) _⟩

theorem zzfixed_no (b off n c : Nat) (z code : Int) (w : World) (hn : 0 < n) (hb : b < w.heap.size) (hz : w.cell? ⟨b, off, none⟩ = some (.int .u8 z)) (hi : (bits BinOp.and IntKind.u8 z 240 != code) = true) :
    Calls Try.prog 11 #[.slice (some ⟨b, off, none⟩) n c, .int .u8 code, .int .i64 0] w fun e w' => e = .returned (.tuple #[.int .i64 0, .bool false, .slice (some ⟨b, off, none⟩) n c]) ∧ Below w.heap.size w w' := by
  have hz1 : ∀ o, (w.alloc o).cell? ⟨b, off, none⟩ = some (.int .u8 z) := fun o => (((Below.refl _ w).alloc (Nat.le_refl _) o).cell (p := ⟨b, off, none⟩) hb).trans hz
  go_enter Try.func11, Try.ntmps11
  go_wp2_with (go_at_call 14; refine (fixed_no _ b off n c z _ _ (by simp) hn (hz1 _) hi).mono ?_; rintro e w' ⟨rfl, rfl⟩)
  go_quiet (fail)
  go_wp2
  go_ret3
  exact ⟨rfl, below_drewN ((Below.refl _ _).alloc (Nat.le_refl _) _) _⟩

theorem zzfixed_yes (b off n c : Nat) (z code : Int) (w : World) (hn : 0 < n) (hc : n ≤ c) (hb : b < w.heap.size) (hz : w.cell? ⟨b, off, none⟩ = some (.int .u8 z)) (h0 : 0 ≤ z) (h255 : z ≤ 255) (hi : (bits BinOp.and IntKind.u8 z 240 != code) = false) :
    Calls Try.prog 11 #[.slice (some ⟨b, off, none⟩) n c, .int .u8 code, .int .i64 0] w fun e w' => ∃ a' : Option Addr, e = .returned (.tuple #[.int .i64 (z % 16), .bool true, .slice a' (n - 1) (c - 1)]) ∧ Below w.heap.size w w' := by
  have hz1 : ∀ o, (w.alloc o).cell? ⟨b, off, none⟩ = some (.int .u8 z) := fun o => (((Below.refl _ w).alloc (Nat.le_refl _) o).cell (p := ⟨b, off, none⟩) hb).trans hz
  go_enter Try.func11, Try.ntmps11
  go_wp2_with (go_at_call 14; refine (fixed_yes _ b off n c z _ _ (by simp) hn hc (hz1 _) h0 h255 (by simp) hi).mono ?_; rintro e w' ⟨rfl, a', rfl⟩)
  go_quiet (fail)
  go_wp2
  go_ret3
  exact ⟨a', rfl, below_drewN ((Below.refl _ _).alloc (Nat.le_refl _) _) _⟩

theorem bytes12 (a : Option Addr) (n c : Nat) (hn : n ≤ maxLen) (w : World) :
    Calls Try.prog 12 #[.slice a n c] w fun e w' => e = .returned (.bool (decide (n ≤ 1048576))) ∧ w = w' := by
  unfold maxLen at hn
  by_cases h : n ≤ 1048576
  · go_enter Try.func12, Try.ntmps12
    go_wp2
    go_ret
    simp [h]
  · go_enter Try.func12, Try.ntmps12
    go_wp2
    go_ret
    simp [h]

theorem bytes6 (a : Option Addr) (n c : Nat) (hn : n ≤ maxLen) (w : World) :
    Calls Try.prog 6 #[.slice a n c] w fun e w' => e = .returned (.bool (decide (n ≤ 1048576))) ∧ w = w' := by
  unfold maxLen at hn
  by_cases h : n ≤ 1048576
  · go_enter Try.func6, Try.ntmps6
    go_wp2
    go_ret
    simp [h]
  · go_enter Try.func6, Try.ntmps6
    go_wp2
    go_ret
    simp [h]

theorem hi4 (z : Int) (h0 : 0 ≤ z) (h1 : z ≤ 255) : bits BinOp.and IntKind.u8 z 240 = 16 * (z / 16) := by
  obtain ⟨m, rfl⟩ := Int.eq_ofNat_of_zero_le h0
  have : m < 256 := by omega
  have key : ∀ m : Fin 256, bits BinOp.and IntKind.u8 ((m.val : Nat) : Int) 240 = 16 * (((m.val : Nat) : Int) / 16) := by decide +kernel
  exact key ⟨m, this⟩

end Go.Proofs.Qxb6601009a
