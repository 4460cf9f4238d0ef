import Derived.Test.Qxb6601082aRows
import Derived.WalkKit
import Derived.WalkSpells
import Derived.WalkLawsBesides
import Derived.ProofKit
namespace Go.Proofs.Qxb6601082a
open Go.ChangeShapes Go.WideShapes Go.ChangeAt Go.RowKit
set_option linter.unusedVariables false

theorem hide {p : Prop} (h : p) : Hid p := h
theorem unhide {p : Prop} (h : Hid p) : p := h

/-- A 64-bit word. -/
def Word (x : Int) : Prop := 0 ≤ x ∧ x ≤ 18446744073709551615

theorem word_of_wf {x : Int} (h : (Lit.int .u64 x).wf = true) : Word x := by
  simp [Lit.wf, IntKind.min, IntKind.max, IntKind.signed, IntKind.bits] at h
  exact ⟨by omega, by omega⟩

/-- Is the number one that jsonnumber documents? -/
def okB (mag : Int) (neg whole over : Bool) : Bool :=
  if over then decide (mag = 0) else if whole then !(neg && decide (mag = 0)) else !(decide (mag = 0))

theorem numberOK (mag : Int) (neg whole over : Bool) (w : World) :
    Calls Try.prog 11 #[.int .u64 mag, .bool neg, .bool whole, .bool over] w fun e w' => e = .returned (.bool (okB mag neg whole over)) ∧ w = w' := by
  by_cases h : mag = 0
  · subst h
    cases over <;> cases whole <;> cases neg
    all_goals
      go_enter Try.func11, Try.ntmps11
      go_wp2
      go_ret
      exact ⟨rfl, rfl⟩
  · have hm : (mag == 0) = false := by simpa using h
    cases over <;> cases whole <;> cases neg
    all_goals
      go_enter Try.func11, Try.ntmps11
      go_wp2
      go_ret
      simp [okB, h]

theorem tw_lo (x : Int) : IntKind.u64.wrap x = x % 18446744073709551616 := IntKind.wrap_u64 x
theorem word_mod (x : Int) : Word (x % 18446744073709551616) := ⟨by omega, by omega⟩
theorem word_hi {m : Int} (hm : Word m) : Word (m / 9223372036854775808) := by obtain ⟨h0, h1⟩ := hm; exact ⟨by omega, by omega⟩
theorem tw0 {m : Int} (hm : Word m) : 18446744073709551616 * (m / 9223372036854775808) + m * 2 % 18446744073709551616 = 2 * m := by obtain ⟨h0, h1⟩ := hm; omega
theorem tw1a {m : Int} (hm : Word m) (hp : 1 ≤ m) (h : m * 2 % 18446744073709551616 = 0) :
    18446744073709551616 * ((m / 9223372036854775808 - 1) % 18446744073709551616) + (m * 2 % 18446744073709551616 - 1) % 18446744073709551616 = 2 * m - 1 := by obtain ⟨h0, h1⟩ := hm; omega
theorem tw1b {m : Int} (hm : Word m) (hp : 1 ≤ m) (h : ¬ m * 2 % 18446744073709551616 = 0) :
    18446744073709551616 * (m / 9223372036854775808) + (m * 2 % 18446744073709551616 - 1) % 18446744073709551616 = 2 * m - 1 := by obtain ⟨h0, h1⟩ := hm; omega

/-- What a doubled number is: two words. -/
def Pair (hi lo d : Int) : Prop := Word hi ∧ Word lo ∧ 18446744073709551616 * hi + lo = d

theorem pair_lt {ah al bh bl c d : Int} (h : Pair ah al c) (k : Pair bh bl d) : (18446744073709551616 * ah + al < 18446744073709551616 * bh + bl) ↔ c < d := by
  rw [h.2.2, k.2.2]

theorem twice0 (m : Int) (hm : Word m) (w : World) :
    Calls Try.prog 14 #[.int .u64 m, .int .u64 0] w fun e w' => ∃ hi lo : Int, e = .returned (.tuple #[.int .u64 hi, .int .u64 lo]) ∧ Pair hi lo (2 * m) ∧ w = w' := by
  have hm' := hide hm
  obtain ⟨h0, h1⟩ := hm
  go_enter Try.func14, Try.ntmps14
  go_wp2
  go_ret2
  exact ⟨_, _, rfl, ⟨word_hi (unhide hm'), by rw [tw_lo]; exact word_mod _, by rw [tw_lo]; exact tw0 (unhide hm')⟩, rfl⟩

theorem twice1 (m : Int) (hm : Word m) (hp : 1 ≤ m) (w : World) :
    Calls Try.prog 14 #[.int .u64 m, .int .u64 1] w fun e w' => ∃ hi lo : Int, e = .returned (.tuple #[.int .u64 hi, .int .u64 lo]) ∧ Pair hi lo (2 * m - 1) ∧ w = w' := by
  have hm' := hide hm
  obtain ⟨h0, h1⟩ := hm
  go_enter Try.func14, Try.ntmps14
  go_wp2
  · have hz : (IntKind.u64.wrap (m * 2) == 0) = true := by assumption
    go_ret2
    rw [tw_lo] at hz
    exact ⟨_, _, rfl, ⟨by rw [tw_lo]; exact word_mod _, by rw [tw_lo]; exact word_mod _, by rw [tw_lo, tw_lo, tw_lo]; exact tw1a (unhide hm') hp (by simpa using hz)⟩, rfl⟩
  · have hz : (IntKind.u64.wrap (m * 2) == 0) = false := by assumption
    go_ret2
    rw [tw_lo] at hz
    exact ⟨_, _, rfl, ⟨word_hi (unhide hm'), by rw [tw_lo]; exact word_mod _, by rw [tw_lo, tw_lo]; exact tw1b (unhide hm') hp (by simpa using hz)⟩, rfl⟩

/-- Twice a representative of the absolute value. -/
def rep (mag : Int) (whole : Bool) : Int := if whole then 2 * mag else 2 * mag - 1

theorem twiceAbs (m : Int) (whole : Bool) (hm : Word m) (hp : whole = false → 1 ≤ m) (w : World) :
    Calls Try.prog 13 #[.int .u64 m, .bool whole] w fun e w' => ∃ hi lo : Int, e = .returned (.tuple #[.int .u64 hi, .int .u64 lo]) ∧ Pair hi lo (rep m whole) ∧ w = w' := by
  cases whole
  · go_enter Try.func13, Try.ntmps13
    go_wp2_with (go_at_call 14; refine (twice1 m hm (hp rfl) _).mono ?_; rintro e w' ⟨hi, lo, rfl, hq, rfl⟩)
    go_ret2
    exact ⟨_, _, rfl, by assumption, rfl⟩
  · go_enter Try.func13, Try.ntmps13
    go_wp2_with (go_at_call 14; refine (twice0 m hm _).mono ?_; rintro e w' ⟨hi, lo, rfl, hq, rfl⟩)
    go_ret2
    exact ⟨_, _, rfl, by assumption, rfl⟩

theorem less_any (ah al bh bl : Int) (h1 : Word ah) (h2 : Word al) (h3 : Word bh) (h4 : Word bl) (w : World) :
    Calls Try.prog 15 #[.int .u64 ah, .int .u64 al, .int .u64 bh, .int .u64 bl] w fun e w' => ∃ r : Bool, e = .returned (.bool r) ∧ (r = true ↔ 18446744073709551616 * ah + al < 18446744073709551616 * bh + bl) ∧ w = w' := by
  obtain ⟨a1, a2⟩ := h1; obtain ⟨b1, b2⟩ := h2; obtain ⟨c1, c2⟩ := h3; obtain ⟨d1, d2⟩ := h4
  by_cases he : ah = bh
  · subst he
    go_enter Try.func15, Try.ntmps15
    go_wp2
    go_ret
    exact ⟨_, rfl, by simp, rfl⟩
  · have hn : (ah != bh) = true := by simpa using he
    go_enter Try.func15, Try.ntmps15
    go_wp2
    go_ret
    exact ⟨_, rfl, by simp; omega, rfl⟩

def byB (mag : Int) (neg over : Bool) (least most : Int) : Bool := if over then true else if neg then decide (least < mag) else decide (most < mag)

theorem beyond_any (mag : Int) (neg whole over : Bool) (least most : Int) (w : World) :
    Calls Try.prog 24 #[.agg #[.int .u64 mag, .bool neg, .bool whole, .bool over], .int .u64 least, .int .u64 most] w fun e w' => e = .returned (.bool (byB mag neg over least most)) ∧ Grown w w' := by
  cases over <;> cases neg
  all_goals
    go_enter Try.func24, Try.ntmps24
    go_wp2
    go_ret
    exact ⟨rfl, by repeat (first | exact Grown.refl _ | apply Grown.drew | apply Grown.alloc)⟩

theorem zzbeyond_any (mag : Int) (neg whole over : Bool) (least most : Int) (w : World) :
    Calls Try.prog 12 #[.int .u64 mag, .bool neg, .bool whole, .bool over, .int .u64 least, .int .u64 most] w fun e w' => e = .returned (.bool (byB mag neg over least most)) ∧ Grown w w' := by
  go_enter Try.func12, Try.ntmps12
  go_wp2_with (go_at_call 24; refine (beyond_any mag neg whole over least most _).mono ?_; rintro e w' ⟨rfl, hg⟩)
  go_ret
  exact ⟨rfl, by assumption⟩

def hoB (lo hi : Int) (hasLo hasHi : Bool) (mag : Int) (neg whole over : Bool) : Bool :=
  if neg then !hasLo else if over then !hasHi else (!(hasLo && decide ((if whole then mag else mag - 1) < lo)) && !(hasHi && decide (hi < mag)))

set_option maxHeartbeats 2000000 in
theorem holds_frac (lo hi : Int) (hasLo hasHi : Bool) (mag : Int) (h0 : 0 ≤ mag) (h1 : mag ≤ 18446744073709551615) (hp : 1 ≤ mag) (w : World) :
    Calls Try.prog 25 #[.agg #[.int .u64 lo, .int .u64 hi, .bool hasLo, .bool hasHi], .agg #[.int .u64 mag, .bool false, .bool false, .bool false]] w fun e w' => e = .returned (.bool (!(hasLo && decide (mag - 1 < lo)) && !(hasHi && decide (hi < mag)))) ∧ Grown w w' := by
  by_cases h2 : mag - 1 < lo <;> by_cases h3 : hi < mag <;> cases hasLo <;> cases hasHi
  all_goals
    go_enter Try.func25, Try.ntmps25
    go_wp2
    go_ret
    refine ⟨?_, by repeat (first | exact Grown.refl _ | apply Grown.drew | apply Grown.alloc)⟩
    simp [h2, h3]

set_option maxHeartbeats 2000000 in
theorem holds_whole (lo hi : Int) (hasLo hasHi : Bool) (mag : Int) (h0 : 0 ≤ mag) (h1 : mag ≤ 18446744073709551615) (w : World) :
    Calls Try.prog 25 #[.agg #[.int .u64 lo, .int .u64 hi, .bool hasLo, .bool hasHi], .agg #[.int .u64 mag, .bool false, .bool true, .bool false]] w fun e w' => e = .returned (.bool (!(hasLo && decide (mag < lo)) && !(hasHi && decide (hi < mag)))) ∧ Grown w w' := by
  by_cases h2 : mag < lo <;> by_cases h3 : hi < mag <;> cases hasLo <;> cases hasHi
  all_goals
    go_enter Try.func25, Try.ntmps25
    go_wp2
    go_ret
    refine ⟨?_, by repeat (first | exact Grown.refl _ | apply Grown.drew | apply Grown.alloc)⟩
    simp [h2, h3]

theorem holds_any (lo hi : Int) (hasLo hasHi : Bool) (mag : Int) (neg whole over : Bool) (h0 : 0 ≤ mag) (h1 : mag ≤ 18446744073709551615) (hp : neg = false → over = false → whole = false → 1 ≤ mag) (w : World) :
    Calls Try.prog 25 #[.agg #[.int .u64 lo, .int .u64 hi, .bool hasLo, .bool hasHi], .agg #[.int .u64 mag, .bool neg, .bool whole, .bool over]] w fun e w' => e = .returned (.bool (hoB lo hi hasLo hasHi mag neg whole over)) ∧ Grown w w' := by
  cases neg
  · cases over
    · cases whole
      · exact holds_frac lo hi hasLo hasHi mag h0 h1 (hp rfl rfl rfl) w
      · exact holds_whole lo hi hasLo hasHi mag h0 h1 w
    · go_enter Try.func25, Try.ntmps25
      go_wp2
      go_ret
      exact ⟨rfl, by repeat (first | exact Grown.refl _ | apply Grown.drew | apply Grown.alloc)⟩
  · go_enter Try.func25, Try.ntmps25
    go_wp2
    go_ret
    exact ⟨rfl, by repeat (first | exact Grown.refl _ | apply Grown.drew | apply Grown.alloc)⟩

theorem zzholds_any (lo hi : Int) (hasLo hasHi : Bool) (mag : Int) (neg whole over : Bool) (h0 : 0 ≤ mag) (h1 : mag ≤ 18446744073709551615) (hp : neg = false → over = false → whole = false → 1 ≤ mag) (w : World) :
    Calls Try.prog 16 #[.int .u64 lo, .int .u64 hi, .bool hasLo, .bool hasHi, .int .u64 mag, .bool neg, .bool whole, .bool over] w fun e w' => e = .returned (.bool (hoB lo hi hasLo hasHi mag neg whole over)) ∧ Grown w w' := by
  have HP := hide hp
  clear hp
  go_enter Try.func16, Try.ntmps16
  go_wp2_with (go_at_call 25; refine (holds_any lo hi hasLo hasHi mag neg whole over h0 h1 (unhide HP) _).mono ?_; rintro e w' ⟨rfl, hg⟩)
  go_ret
  exact ⟨rfl, by assumption⟩
end Go.Proofs.Qxb6601082a
