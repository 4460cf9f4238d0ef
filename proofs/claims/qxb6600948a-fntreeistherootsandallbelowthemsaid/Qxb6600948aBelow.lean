import Derived.Test.Qxb6600948aTree
namespace Go.Proofs.Qxb6600948a
open Go.ChangeShapes Go.WideShapes Go.ChangeAt Go.RowKit
set_option linter.unusedVariables false

/-- The set of the roots, as a map to bool. -/
def Rt (g : Int → Option Bool) (rs : List Int) : Prop := ∀ y, (g y).getD false = decide (y ∈ rs)

theorem below_11 (bp br n m k sp sr : Nat) (f : Int → Option Int) (g : Int → Option Bool) (rs : List Int) (x : Int) (w : World) (hf : FM intE w bp n f sp) (hg : FM boolE w br m g sr) (hr : Rt g rs) (hn : n ≤ k) (hk : k ≤ 4096) (hx : I64 x) (hfi : ∀ y z, f y = some z → I64 z) (r0 : Bool) (hr0 : r0 = true ↔ Reach f rs x) :
    Calls Try.prog 11 #[.int .i64 x, .map (some bp), .map (some br), .int .i64 k] w fun e w' => e = .returned (.bool r0) ∧ w = w' := by
  have HL := hide (fun y (hy : I64 y) => look25ok hf hy)
  have HR : Hid (∀ y, I64 y → (Instr.lookup 26 (.map (some br)) (.int .i64 y) false).run Try.prog w = .ok (.bool (decide (y ∈ rs))) w) := hide (fun y hy => by rw [look26 hg hy, hr y])
  have HFI := hide hfi
  obtain ⟨ks, hk1, hk2, hk3⟩ := hf.keys
  have hks := hf.size_le
  by_cases hreach : Reach f rs x
  · obtain rfl : r0 = true := hr0.2 hreach
    obtain ⟨l, hl, hnd⟩ := reach_ch hreach
    have hll : (x :: l).length ≤ n := by
      refine Nat.le_trans (len_le_of_sub hnd (l₂ := ks) (fun z hz => ?_)) (by omega)
      obtain ⟨y, hy⟩ := ch_some hl z hz
      exact (hk2 z).2 (by rw [hy]; rfl)
    have HRE := hide hreach
    have HCH := hide hl
    clear hr0 hf hg hr hfi hl hnd hk1 hk2 hk3 hreach
    go_enter Try.func11, Try.ntmps11
    go_wp2
    go_loop [9, 10, 11, 12] (fun cur st _ _ => ∃ (s : Nat) (y : Int) (r : List Int), cur = .int .i64 y ∧ st = .int .i64 s ∧ I64 y ∧ Hid (Ch f rs (y :: r)) ∧ s + r.length + 1 ≤ n) (fun _ st _ _ => n - (intOf st).toNat)
    case atStart => exact ⟨0, x, l, rfl, rfl, hx, HCH, by simp at hll; omega⟩
    case round =>
      obtain ⟨s, y, r, rfl, rfl, hy, hch, hs⟩ := hrel
      have hlk := unhide HL y hy
      have hlr := unhide HR y hy
      by_cases hroot : y ∈ rs
      · obtain ⟨z, hz⟩ := ch_some (unhide hch) y (by simp)
        rw [hz] at hlk
        simp only [Option.getD_some, Option.isSome_some] at hlk
        simp only [hroot, decide_true] at hlr
        clear hz hroot
        go_wp2
        go_ret
        exact ⟨rfl, rfl⟩
      · simp only [hroot, decide_false] at hlr
        obtain ⟨z, r', hz, rfl, hch'⟩ : ∃ z r', f y = some z ∧ r = z :: r' ∧ Ch f rs (z :: r') := by
          have := unhide hch
          cases this with
          | one h1 h2 => exact absurd h2 hroot
          | cons h1 h2 => exact ⟨_, _, h1, rfl, h2⟩
        rw [hz] at hlk
        simp only [Option.getD_some, Option.isSome_some] at hlk
        have hzi := unhide HFI y z hz
        have HC' := hide hch'
        have hs' : s + (r'.length + 1) + 1 ≤ n := by simpa using hs
        clear hz hroot hch' hs
        go_wp2
        go_round
        case rel => exact ⟨s + 1, z, r', rfl, by go_num, hzi, HC', by omega⟩
        case measure => simp [intOf]; omega
  · obtain rfl : r0 = false := by
      cases r0
      · rfl
      · exact absurd (hr0.1 rfl) hreach
    have HNR := hide hreach
    clear hr0 hf hg hr hfi hk1 hk2 hk3 hreach
    go_enter Try.func11, Try.ntmps11
    go_wp2
    go_loop [9, 10, 11, 12] (fun cur st _ _ => ∃ (s : Nat) (y : Int), cur = .int .i64 y ∧ st = .int .i64 s ∧ I64 y ∧ Hid (¬ Reach f rs y) ∧ s ≤ k + 1) (fun _ st _ _ => k + 1 - (intOf st).toNat)
    case atStart => exact ⟨0, x, rfl, rfl, hx, HNR, by omega⟩
    case round =>
      obtain ⟨s, y, rfl, rfl, hy, hnr, hs⟩ := hrel
      have hlk := unhide HL y hy
      have hlr := unhide HR y hy
      by_cases hsk : s ≤ k
      · cases hz : f y with
        | none =>
          rw [hz] at hlk
          simp only [Option.getD_none, Option.isSome_none] at hlk
          go_wp2
          go_ret
          exact ⟨rfl, rfl⟩
        | some z =>
          have hroot : y ∉ rs := fun h => unhide hnr (.root hz h)
          have HZ : Hid (¬ Reach f rs z) := hide (fun h => unhide hnr (.up hz h))
          have hzi := unhide HFI y z hz
          rw [hz] at hlk
          simp only [Option.getD_some, Option.isSome_some] at hlk
          simp only [hroot, decide_false] at hlr
          clear hz hroot
          go_wp2
          go_round
          case rel => exact ⟨s + 1, z, rfl, by go_num, hzi, HZ, by omega⟩
          case measure => simp [intOf]; omega
      · go_wp2
        go_ret
        exact ⟨rfl, rfl⟩
end Go.Proofs.Qxb6600948a
