import Derived.Test.Qxb6601009aCopy
import Derived.Deep.QuietTactic
import Derived.BigQuiet
import Derived.WalkSmall
namespace Go.Proofs.Qxb6601009a
open Go.ChangeShapes Go.WideShapes Go.ChangeAt Go.RowKit
set_option linter.unusedVariables false

theorem fixint_empty (r : Nat) (a : Option Addr) (c : Nat) (w : World) (hr : w.cell? ⟨r, 0, none⟩ = some (.slice a 0 c)) :
    Calls Try.prog 13 #[.pointer (some ⟨r, 0, none⟩)] w fun e w' => e = .returned (.tuple #[.int .u64 0, .bool false]) ∧ w' = w := by
  go_enter Try.func13, Try.ntmps13
  go_wp2
  go_ret2
  exact ⟨rfl, rfl⟩

theorem fixint_high (r b off n c : Nat) (z : Int) (w : World) (hr : w.cell? ⟨r, 0, none⟩ = some (.slice (some ⟨b, off, none⟩) n c)) (hn : 0 < n) (hz : w.cell? ⟨b, off, none⟩ = some (.int .u8 z)) (hi : 127 < z) :
    Calls Try.prog 13 #[.pointer (some ⟨r, 0, none⟩)] w fun e w' => e = .returned (.tuple #[.int .u64 0, .bool false]) ∧ w' = w := by
  have h0 : ((n : Int) == 0) = false := by simp; omega
  go_enter Try.func13, Try.ntmps13
  go_wp2
  go_ret2
  exact ⟨rfl, rfl⟩

theorem fixint_low (r b off n c : Nat) (z : Int) (w : World) (hr : w.cell? ⟨r, 0, none⟩ = some (.slice (some ⟨b, off, none⟩) n c)) (hn : 0 < n) (hc : n ≤ c) (hz : w.cell? ⟨b, off, none⟩ = some (.int .u8 z)) (h0 : 0 ≤ z) (hi : z ≤ 127)
    (hf : w.frozen? ⟨r, 0, none⟩ = false) :
    Calls Try.prog 13 #[.pointer (some ⟨r, 0, none⟩)] w fun e w' => e = .returned (.tuple #[.int .u64 z, .bool true]) ∧ ∃ a' : Option Addr, (1 < n → a' = some ⟨b, off + 1, none⟩) ∧ w' = w.setCell ⟨r, 0, none⟩ (.slice a' (n - 1) (c - 1)) := by
  have h0 : ((n : Int) == 0) = false := by simp; omega
  go_enter Try.func13, Try.ntmps13
  go_wp2
  · go_ret2
    exact ⟨rfl, _, fun h => by omega, rfl⟩
  · go_ret2
    exact ⟨rfl, _, fun _ => rfl, rfl⟩

theorem zzfixint_empty (a : Option Addr) (c : Nat) (w : World) :
    Calls Try.prog 8 #[.slice a 0 c] w fun e w' => e = .returned (.tuple #[.int .u64 0, .bool false, .slice a 0 c]) ∧ Below w.heap.size w w' := by
  go_enter Try.func8, Try.ntmps8
  go_wp2_with (go_at_call 13; refine (fixint_empty _ a c _ (by simp)).mono ?_; rintro e w' ⟨rfl, rfl⟩)
  go_quiet (fail)
  go_wp2
  go_ret3
  exact ⟨rfl, below_drewN ((Below.refl _ _).alloc (Nat.le_refl _) _) _⟩

theorem zzfixint_high (b off n c : Nat) (z : Int) (w : World) (hn : 0 < n) (hb : b < w.heap.size) (hz : w.cell? ⟨b, off, none⟩ = some (.int .u8 z)) (hi : 127 < z) :
    Calls Try.prog 8 #[.slice (some ⟨b, off, none⟩) n c] w fun e w' => e = .returned (.tuple #[.int .u64 0, .bool false, .slice (some ⟨b, off, none⟩) n c]) ∧ Below w.heap.size w w' := by
  have hz1 : ∀ o, (w.alloc o).cell? ⟨b, off, none⟩ = some (.int .u8 z) := fun o => (((Below.refl _ w).alloc (Nat.le_refl _) o).cell (p := ⟨b, off, none⟩) hb).trans hz
  go_enter Try.func8, Try.ntmps8
  go_wp2_with (go_at_call 13; refine (fixint_high _ b off n c z _ (by simp) hn (hz1 _) hi).mono ?_; rintro e w' ⟨rfl, rfl⟩)
  go_quiet (fail)
  go_wp2
  go_ret3
  exact ⟨rfl, below_drewN ((Below.refl _ _).alloc (Nat.le_refl _) _) _⟩

theorem zzfixint_low (b off n c : Nat) (z : Int) (w : World) (hn : 0 < n) (hc : n ≤ c) (hb : b < w.heap.size) (hz : w.cell? ⟨b, off, none⟩ = some (.int .u8 z)) (h0 : 0 ≤ z) (hi : z ≤ 127) :
    Calls Try.prog 8 #[.slice (some ⟨b, off, none⟩) n c] w fun e w' => ∃ a' : Option Addr, e = .returned (.tuple #[.int .u64 z, .bool true, .slice a' (n - 1) (c - 1)]) ∧ (1 < n → a' = some ⟨b, off + 1, none⟩) ∧ Below w.heap.size w w' := by
  have hz1 : ∀ o, (w.alloc o).cell? ⟨b, off, none⟩ = some (.int .u8 z) := fun o => (((Below.refl _ w).alloc (Nat.le_refl _) o).cell (p := ⟨b, off, none⟩) hb).trans hz
  go_enter Try.func8, Try.ntmps8
  go_wp2_with (go_at_call 13; refine (fixint_low _ b off n c z _ (by simp) hn hc (hz1 _) h0 hi (by simp)).mono ?_; rintro e w' ⟨rfl, a', ha', rfl⟩; have HA := hide ha'; clear ha')
  go_quiet (fail)
  go_wp2
  go_ret3
  exact ⟨a', rfl, unhide HA, below_drewN ((Below.refl _ _).alloc (Nat.le_refl _) _) _⟩
end Go.Proofs.Qxb6601009a
