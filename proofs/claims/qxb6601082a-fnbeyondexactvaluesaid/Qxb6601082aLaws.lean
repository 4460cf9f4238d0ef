import Derived.Test.Qxb6601082aWalks
namespace Go.Proofs.Qxb6601082a
open Go.ChangeShapes Go.WideShapes Go.ChangeAt Go.RowKit
set_option linter.unusedVariables false

theorem ok_pos {mag : Int} {neg whole : Bool} (h0 : 0 ≤ mag) (h : okB mag neg whole false = true) (hw : whole = false) : 1 ≤ mag := by
  subst hw
  simp [okB] at h
  omega
theorem ok_neg {mag : Int} {whole : Bool} (h0 : 0 ≤ mag) (h : okB mag true whole false = true) : 1 ≤ mag := by
  cases whole <;> simp [okB] at h <;> omega

theorem rep_gt {mag b : Int} {whole r : Bool} (h : r = true ↔ 2 * b < rep mag whole) : r = decide (b < mag) := by
  rw [Bool.eq_iff_iff, h, decide_eq_true_iff]
  cases whole <;> simp [rep] <;> omega
theorem rep_lt {mag b : Int} {whole r : Bool} (h : r = true ↔ rep mag whole < 2 * b) : r = decide ((if whole then mag else mag - 1) < b) := by
  rw [Bool.eq_iff_iff, h, decide_eq_true_iff]
  cases whole <;> simp [rep] <;> omega

theorem grown_trans {a b c : World} (h : Grown a b) (k : Grown b c) : Grown a c :=
  ⟨World.keptBut_trans h.1 k.1, fun x => (k.2.1 x).trans (h.2.1 x), Nat.le_trans h.2.2 k.2.2⟩

theorem law_beyond (mag : Int) (neg whole over : Bool) (least most : Int) (hm : Word mag) (hl : Word least) (hM : Word most) (w : World) :
    Calls Try.prog 3 #[.int .u64 mag, .bool neg, .bool whole, .bool over, .int .u64 least, .int .u64 most] w fun e w' => e = .returned (.bool true) ∧ Grown w w' := by
  cases hok : okB mag neg whole over
  · go_enter Try.func3, Try.ntmps3
    go_wp2_with (go_at_call 11; refine (numberOK _ _ _ _ _).mono ?_; rintro e w' ⟨rfl, rfl⟩; rw [hok])
    go_ret
    exact ⟨rfl, Grown.refl _⟩
  · cases over
    · have hp : whole = false → 1 ≤ mag := ok_pos hm.1 hok
      have HP := hide hp
      have HM := hide hm
      have HL := hide hl
      have HX := hide hM
      clear hp hm hl hM
      cases neg
      · go_enter Try.func3, Try.ntmps3
        go_wp2_with (first | (go_at_call 11; refine (numberOK _ _ _ _ _).mono ?_; rintro e w' ⟨rfl, rfl⟩; rw [hok]) | fail)
        refine (zzbeyond_any _ _ _ _ _ _ _).mono ?_
        rintro e w1 ⟨rfl, hg1⟩
        go_wp2_with fail
        refine (twiceAbs _ _ (unhide HM) (unhide HP) _).mono ?_
        rintro e w' ⟨xh, xl, rfl, hx, rfl⟩
        go_wp2_with fail
        refine (twice0 _ (unhide HX) _).mono ?_
        rintro e w' ⟨mh, ml, rfl, hmm, rfl⟩
        go_wp2_with fail
        refine (less_any _ _ _ _ hmm.1 hmm.2.1 hx.1 hx.2.1 _).mono ?_
        rintro e w' ⟨r, rfl, hr, rfl⟩
        have HR := hide (rep_gt (hr.trans (pair_lt hmm hx)))
        clear hr
        go_wp2
        go_ret
        refine ⟨?_, hg1⟩
        rw [unhide HR]
        simp [byB]
      · go_enter Try.func3, Try.ntmps3
        go_wp2_with (first | (go_at_call 11; refine (numberOK _ _ _ _ _).mono ?_; rintro e w' ⟨rfl, rfl⟩; rw [hok]) | fail)
        refine (zzbeyond_any _ _ _ _ _ _ _).mono ?_
        rintro e w1 ⟨rfl, hg1⟩
        go_wp2_with fail
        refine (twiceAbs _ _ (unhide HM) (unhide HP) _).mono ?_
        rintro e w' ⟨xh, xl, rfl, hx, rfl⟩
        go_wp2_with fail
        refine (twice0 _ (unhide HL) _).mono ?_
        rintro e w' ⟨mh, ml, rfl, hmm, rfl⟩
        go_wp2_with fail
        refine (less_any _ _ _ _ hmm.1 hmm.2.1 hx.1 hx.2.1 _).mono ?_
        rintro e w' ⟨r, rfl, hr, rfl⟩
        have HR := hide (rep_gt (hr.trans (pair_lt hmm hx)))
        clear hr
        go_wp2
        go_ret
        refine ⟨?_, hg1⟩
        rw [unhide HR]
        simp [byB]
    · go_enter Try.func3, Try.ntmps3
      go_wp2_with (first | (go_at_call 11; refine (numberOK _ _ _ _ _).mono ?_; rintro e w' ⟨rfl, rfl⟩; rw [hok]) | fail)
      refine (zzbeyond_any _ _ _ _ _ _ _).mono ?_
      rintro e w1 ⟨rfl, hg1⟩
      go_wp2
      go_ret
      exact ⟨by simp [byB], hg1⟩

theorem law_agrees (hi mag : Int) (neg whole over : Bool) (hh : Word hi) (hm : Word mag) (w : World) :
    Calls Try.prog 7 #[.int .u64 hi, .int .u64 mag, .bool neg, .bool whole, .bool over] w fun e w' => e = .returned (.bool true) ∧ Grown w w' := by
  cases hok : okB mag neg whole over
  · go_enter Try.func7, Try.ntmps7
    go_wp2_with (go_at_call 11; refine (numberOK _ _ _ _ _).mono ?_; rintro e w' ⟨rfl, rfl⟩; rw [hok])
    go_ret
    exact ⟨rfl, Grown.refl _⟩
  · have hp : neg = false → over = false → whole = false → 1 ≤ mag := fun _ ho hw => by subst ho; exact ok_pos hm.1 hok hw
    have key : hoB 0 hi true true mag neg whole over = !byB mag neg over 0 hi := by
      cases neg
      · cases over
        · cases whole
          · have := ok_pos hm.1 hok rfl
            have h1 : ¬ mag - 1 < 0 := by omega
            simp [hoB, byB, h1]
          · have h1 : ¬ mag < 0 := by have := hm.1; omega
            simp [hoB, byB, h1]
        · simp [hoB, byB]
      · cases over
        · have := ok_neg hm.1 hok
          have h1 : (0 : Int) < mag := by omega
          simp [hoB, byB, h1]
        · simp [hoB, byB]
    have HP := hide hp
    have HK := hide key
    obtain ⟨m0, m1⟩ := hm
    clear hp key
    go_enter Try.func7, Try.ntmps7
    go_wp2_with (first | (go_at_call 11; refine (numberOK _ _ _ _ _).mono ?_; rintro e w' ⟨rfl, rfl⟩; rw [hok]) | fail)
    refine (zzholds_any _ _ _ _ _ _ _ _ m0 m1 (unhide HP) _).mono ?_
    rintro e w1 ⟨rfl, hg1⟩
    go_wp2_with fail
    refine (zzbeyond_any _ _ _ _ _ _ _).mono ?_
    rintro e w2 ⟨rfl, hg2⟩
    go_wp2
    go_ret
    refine ⟨?_, grown_trans hg1 hg2⟩
    rw [unhide HK]
    simp

theorem law_holds (lo hi : Int) (hasLo hasHi : Bool) (mag : Int) (neg whole over : Bool) (hlo : Word lo) (hhi : Word hi) (hm : Word mag) (w : World) :
    Calls Try.prog 5 #[.int .u64 lo, .int .u64 hi, .bool hasLo, .bool hasHi, .int .u64 mag, .bool neg, .bool whole, .bool over] w fun e w' => e = .returned (.bool true) ∧ Grown w w' := by
  cases hok : okB mag neg whole over
  · go_enter Try.func5, Try.ntmps5
    go_wp2_with (go_at_call 11; refine (numberOK _ _ _ _ _).mono ?_; rintro e w' ⟨rfl, rfl⟩; rw [hok])
    go_ret
    exact ⟨rfl, Grown.refl _⟩
  · have HM := hide hm
    have HL := hide hlo
    have HX := hide hhi
    obtain ⟨m0, m1⟩ := hm
    clear hlo hhi
    cases neg
    · cases over
      · have HP : Hid (whole = false → 1 ≤ mag) := hide (ok_pos m0 hok)
        go_enter Try.func5, Try.ntmps5
        go_wp2_with (first | (go_at_call 11; refine (numberOK _ _ _ _ _).mono ?_; rintro e w' ⟨rfl, rfl⟩; rw [hok]) | fail)
        refine (zzholds_any _ _ _ _ _ _ _ _ m0 m1 (fun _ _ => unhide HP) _).mono ?_
        rintro e w1 ⟨rfl, hg1⟩
        go_wp2_with fail
        refine (twiceAbs _ _ (unhide HM) (unhide HP) _).mono ?_
        rintro e w' ⟨xh, xl, rfl, hx, rfl⟩
        go_wp2_with fail
        refine (twice0 _ (unhide HL) _).mono ?_
        rintro e w' ⟨lh, ll, rfl, hl, rfl⟩
        go_wp2_with fail
        refine (twice0 _ (unhide HX) _).mono ?_
        rintro e w' ⟨hh, hhl, rfl, hh2, rfl⟩
        go_wp2_with fail
        refine (less_any _ _ _ _ hx.1 hx.2.1 hl.1 hl.2.1 _).mono ?_
        rintro e w' ⟨r1, rfl, hr1, rfl⟩
        have HR1 := hide (rep_lt (hr1.trans (pair_lt hx hl)))
        clear hr1
        go_wp2_with fail
        refine (less_any _ _ _ _ hh2.1 hh2.2.1 hx.1 hx.2.1 _).mono ?_
        rintro e w' ⟨r2, rfl, hr2, rfl⟩
        have HR2 := hide (rep_gt (hr2.trans (pair_lt hh2 hx)))
        clear hr2
        cases hasLo <;> cases r1 <;> cases hasHi
        all_goals
          go_wp2
          go_ret
          refine ⟨?_, hg1⟩
          have e1 := unhide HR1
          have e2 := unhide HR2
          simp [hoB, ← e1, ← e2]
      · go_enter Try.func5, Try.ntmps5
        go_wp2_with (first | (go_at_call 11; refine (numberOK _ _ _ _ _).mono ?_; rintro e w' ⟨rfl, rfl⟩; rw [hok]) | fail)
        refine (zzholds_any _ _ _ _ _ _ _ _ m0 m1 (fun _ h => by cases h) _).mono ?_
        rintro e w1 ⟨rfl, hg1⟩
        cases hasLo <;> cases hasHi
        all_goals
          go_wp2
          go_ret
          exact ⟨by simp [hoB], hg1⟩
    · go_enter Try.func5, Try.ntmps5
      go_wp2_with (first | (go_at_call 11; refine (numberOK _ _ _ _ _).mono ?_; rintro e w' ⟨rfl, rfl⟩; rw [hok]) | fail)
      refine (zzholds_any _ _ _ _ _ _ _ _ m0 m1 (fun h => by cases h) _).mono ?_
      rintro e w1 ⟨rfl, hg1⟩
      cases hasLo <;> cases hasHi
      all_goals
        go_wp2
        go_ret
        exact ⟨by simp [hoB], hg1⟩
end Go.Proofs.Qxb6601082a
