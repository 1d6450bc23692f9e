import Derived.Test.Qxb6603367aSlots
namespace Go.Proofs.Qxb6603367a.Bytes
open Go.RowKit Go.Deep Go.ChangeShapes

theorem IsRow.below {k : IntKind} {w w' : World} {a : Option Addr} {len cap : Nat} {zs : List Int} (h : IsRow k w a len cap zs) (hb : Below w.heap.size w w') : IsRow k w' a len cap zs := by
  rcases h with h | ⟨x, h1, h2, h3, h4, h5, h6⟩
  · exact .inl h
  · exact .inr ⟨x, h1, h2, h3, h4, fun i hi => (hb.cell (World.block_lt_of_cell? w _ (h5 i hi))).trans (h5 i hi), h6⟩

theorem same_yes (a1 : Option Addr) (n1 c1 : Nat) (a2 : Option Addr) (n2 c2 : Nat) (z : List Int) (w : World) (h1 : Row w a1 n1 z) (h2 : Row w a2 n2 z) (hn1 : n1 ≤ 1048576) (hn2 : n2 ≤ 1048576) :
    Calls Try.prog 8 #[.slice a1 n1 c1, .slice a2 n2 c2] w fun e w' => e = .returned (.bool true) ∧ Below w.heap.size w w' := by
  have h := same_any a1 n1 c1 z a2 n2 c2 z w h1 h2 hn1 hn2
  rw [show decide (z = z) = true by simp] at h
  exact h
theorem same_no (a1 : Option Addr) (n1 c1 : Nat) (z1 : List Int) (a2 : Option Addr) (n2 c2 : Nat) (z2 : List Int) (hz : ¬ z1 = z2) (w : World) (h1 : Row w a1 n1 z1) (h2 : Row w a2 n2 z2) (hn1 : n1 ≤ 1048576) (hn2 : n2 ≤ 1048576) :
    Calls Try.prog 8 #[.slice a1 n1 c1, .slice a2 n2 c2] w fun e w' => e = .returned (.bool false) ∧ Below w.heap.size w w' := by
  have h := same_any a1 n1 c1 z1 a2 n2 c2 z2 w h1 h2 hn1 hn2
  rw [show decide (z1 = z2) = false by simpa using hz] at h
  exact h

set_option maxHeartbeats 1000000 in
/-- FnSlotPairRoundTrip returns true. -/
theorem roundTrip (a0 : Option Addr) (n0 c0 : Nat) (z0 : List Int) (a1 : Option Addr) (n1 c1 : Nat) (z1 : List Int) (m : Bool) (w : World) (w0 : IsRow .u8 w a0 n0 c0 z0) (w1 : IsRow .u8 w a1 n1 c1 z1) :
    Calls Try.prog 4 #[.slice a0 n0 c0, .slice a1 n1 c1, .bool m] w fun e w' => e = .returned (.bool true) ∧ Below w.heap.size w w' := by
  go_enter Try.func4, Try.ntmps4
  go_wp2_with fail
  refine (zzBytes4_any _ _ _ _ _ _ _ _).mono ?_
  rintro e w' ⟨b, rfl, rfl⟩
  cases b
  · go_wp2_with fail
    go_ret
    exact ⟨rfl, Below.refl _ _⟩
  by_cases hn0 : 524288 < n0
  · go_wp2_with fail
    go_ret
    exact ⟨rfl, Below.refl _ _⟩
  by_cases hn1 : 524288 < n1
  · go_wp2_with fail
    go_ret
    exact ⟨rfl, Below.refl _ _⟩
  go_wp2_with fail
  refine (clone_any a0 n0 c0 z0 _ w0 (by omega)).mono ?_
  rintro e w2 ⟨a2, rfl, hb2, hr2⟩
  go_wp2_with fail
  refine (clone_any a1 n1 c1 z1 _ (w1.below hb2) (by omega)).mono ?_
  rintro e w3 ⟨a3, rfl, hb3, hr3⟩
  have hr2 := hr2.below hb3
  have hb3 := hb2.trans (hb3.mono hb2.size)
  generalize z0.take n0 = y0 at *
  generalize z1.take n1 = y1 at *
  clear w0 w1 hb2
  go_wp2_with fail
  refine (zzSlotOf_any a2 n0 n0 y0 a3 n1 n1 y1 m _ hr2 hr3).mono ?_
  rintro e w4 ⟨rfl, hb4⟩
  have hr2 := hr2.below hb4
  have hr3 := hr3.below hb4
  have hb4 := hb3.trans (hb4.mono hb3.size)
  clear hb3
  go_wp2_with fail
  refine (zzSlotPair_any y0 (inS m y1) m a3 n1 n1 y1 _ hr3 hr2.2.1 (by intro z hz; cases m <;> simp [inS] at hz; exact hr3.2.1 z hz)).mono ?_
  rintro e w5 ⟨ak, ck, av, cv, rfl, hk, hv, hb5⟩
  have hr2 := hr2.below hb5
  have hr3 := hr3.below hb5
  have hb5 := hb4.trans (hb5.mono hb4.size)
  have hback : back m (inS m y1) y1 = y1 := by cases m <;> rfl
  rw [hback] at hv ⊢
  have L0 : y0.length = n0 := hr2.1
  have L1 : y1.length = n1 := hr3.1
  rw [L0] at hk ⊢
  rw [L1] at hv ⊢
  clear hb4 hback L0 L1
  have hmm : (m != m) = false := by simp
  go_wp2_with fail
  refine (same_yes _ _ _ _ _ _ y0 _ hk hr2 (by omega) (by omega)).mono ?_
  rintro e w6 ⟨rfl, hb6⟩
  have hr3 := hr3.below hb6
  have hv := hv.below hb6
  have hb6 := hb5.trans (hb6.mono hb5.size)
  clear hr2 hk hb5
  go_wp2_with fail
  refine (same_yes _ _ _ _ _ _ y1 _ hv hr3 (by omega) (by omega)).mono ?_
  rintro e w7 ⟨rfl, hb7⟩
  have hb7 := hb6.trans (hb7.mono hb6.size)
  go_wp2_with fail
  go_ret
  exact ⟨rfl, hb7⟩

/-- Two strings of bytes are one just if the bytes are. -/
theorem str_eq {y z : List Int} (hy : ∀ x ∈ y, 0 ≤ x ∧ x ≤ 255) (hz : ∀ x ∈ z, 0 ≤ x ∧ x ≤ 255) : (strOfNums y).toList = (strOfNums z).toList ↔ y = z := by
  refine ⟨fun h => ?_, fun h => by rw [h]⟩
  rw [ByteArray.toList_eq, ByteArray.toList_eq, strOfNums_data, strOfNums_data] at h
  induction y generalizing z with
  | nil => cases z with
    | nil => rfl
    | cons b z => simp at h
  | cons a y ih =>
    cases z with
    | nil => simp at h
    | cons b z =>
      simp only [List.map_cons, List.cons.injEq] at h
      have ha := hy a (by simp)
      have hb := hz b (by simp)
      have e : a.toNat = b.toNat := by
        have := congrArg UInt8.toNat h.1
        simp only [UInt8.toNat_ofNat'] at this
        omega
      rw [show a = b by omega, ih (fun x hx => hy x (by simp [hx])) (fun x hx => hz x (by simp [hx])) h.2]

set_option maxHeartbeats 1000000 in
/-- FnSlotOfSameSlotExactly returns true. -/
theorem sameSlot (a0 : Option Addr) (n0 c0 : Nat) (z0 : List Int) (a1 : Option Addr) (n1 c1 : Nat) (z1 : List Int) (m : Bool) (a2 : Option Addr) (n2 c2 : Nat) (z2 : List Int) (a3 : Option Addr) (n3 c3 : Nat) (z3 : List Int) (m' : Bool) (w : World)
    (w0 : IsRow .u8 w a0 n0 c0 z0) (w1 : IsRow .u8 w a1 n1 c1 z1) (w2 : IsRow .u8 w a2 n2 c2 z2) (w3 : IsRow .u8 w a3 n3 c3 z3) :
    Calls Try.prog 3 #[.slice a0 n0 c0, .slice a1 n1 c1, .bool m, .slice a2 n2 c2, .slice a3 n3 c3, .bool m'] w fun e w' => e = .returned (.bool true) ∧ Below w.heap.size w w' := by
  go_enter Try.func3, Try.ntmps3
  go_wp2_with fail
  refine (zzBytes3_any _ _ _ _ _ _ _ _ _ _ _ _ _ _ _).mono ?_
  rintro e wa ⟨b, rfl, rfl⟩
  cases b
  · go_wp2_with fail
    go_ret
    exact ⟨rfl, Below.refl _ _⟩
  by_cases hn0 : 262144 < n0
  · go_wp2_with fail
    go_ret
    exact ⟨rfl, Below.refl _ _⟩
  by_cases hn1 : 262144 < n1
  · go_wp2_with fail
    go_ret
    exact ⟨rfl, Below.refl _ _⟩
  by_cases hn2 : 262144 < n2
  · go_wp2_with fail
    go_ret
    exact ⟨rfl, Below.refl _ _⟩
  by_cases hn3 : 262144 < n3
  · go_wp2_with fail
    go_ret
    exact ⟨rfl, Below.refl _ _⟩
  go_wp2_with fail
  refine (clone_any a0 n0 c0 z0 _ w0 (by omega)).mono ?_
  rintro e wb ⟨x0, rfl, hb, r0⟩
  go_wp2_with fail
  refine (clone_any a1 n1 c1 z1 _ (w1.below hb) (by omega)).mono ?_
  rintro e wc ⟨x1, rfl, hc, r1⟩
  have r0 := r0.below hc
  have hc := hb.trans (hc.mono hb.size)
  clear hb
  go_wp2_with fail
  refine (clone_any a2 n2 c2 z2 _ (w2.below hc) (by omega)).mono ?_
  rintro e wd ⟨x2, rfl, hd, r2⟩
  have r0 := r0.below hd
  have r1 := r1.below hd
  have hd := hc.trans (hd.mono hc.size)
  clear hc
  go_wp2_with fail
  refine (clone_any a3 n3 c3 z3 _ (w3.below hd) (by omega)).mono ?_
  rintro e we ⟨x3, rfl, he, r3⟩
  have r0 := r0.below he
  have r1 := r1.below he
  have r2 := r2.below he
  have he := hd.trans (he.mono hd.size)
  clear hd w0 w1 w2 w3
  generalize z0.take n0 = y0 at *
  generalize z1.take n1 = y1 at *
  generalize z2.take n2 = y2 at *
  generalize z3.take n3 = y3 at *
  go_wp2_with fail
  refine (zzSlotOf_any x0 n0 n0 y0 x1 n1 n1 y1 m _ r0 r1).mono ?_
  rintro e wf ⟨rfl, hf⟩
  have r0 := r0.below hf
  have r1 := r1.below hf
  have r2 := r2.below hf
  have r3 := r3.below hf
  have hf := he.trans (hf.mono he.size)
  clear he
  go_wp2_with fail
  refine (zzSlotOf_any x2 n2 n2 y2 x3 n3 n3 y3 m' _ r2 r3).mono ?_
  rintro e wg ⟨rfl, hg⟩
  have r0 := r0.below hg
  have r1 := r1.below hg
  have r2 := r2.below hg
  have r3 := r3.below hg
  have hg := hf.trans (hg.mono hf.size)
  clear hf
  by_cases K : y0 = y2
  · subst K
    cases m <;> cases m'
    · simp only [inS, Bool.false_eq_true, if_false]
      go_wp2_with fail
      refine (same_yes _ _ _ _ _ _ y0 _ r0 r2 (by omega) (by omega)).mono ?_
      rintro e wh ⟨rfl, hh⟩
      have hh := hg.trans (hh.mono hg.size)
      go_wp2_with fail
      go_ret
      exact ⟨rfl, hh⟩
    · by_cases V : (strOfNums (inS false y1)).toList = (strOfNums (inS true y3)).toList
      all_goals
        go_wp2_with fail
        refine (same_yes _ _ _ _ _ _ y0 _ r0 r2 (by omega) (by omega)).mono ?_
        rintro e wh ⟨rfl, hh⟩
        have hh := hg.trans (hh.mono hg.size)
        go_wp2_with fail
        go_ret
        exact ⟨rfl, hh⟩
    · by_cases V : (strOfNums (inS true y1)).toList = (strOfNums (inS false y3)).toList
      all_goals
        go_wp2_with fail
        refine (same_yes _ _ _ _ _ _ y0 _ r0 r2 (by omega) (by omega)).mono ?_
        rintro e wh ⟨rfl, hh⟩
        have hh := hg.trans (hh.mono hg.size)
        go_wp2_with fail
        go_ret
        exact ⟨rfl, hh⟩
    · simp only [inS, if_true]
      by_cases V : y1 = y3
      · subst V
        go_wp2_with fail
        refine (same_yes _ _ _ _ _ _ y0 _ r0 r2 (by omega) (by omega)).mono ?_
        rintro e wh ⟨rfl, hh⟩
        have r1 := r1.below hh
        have r3 := r3.below hh
        have hh := hg.trans (hh.mono hg.size)
        go_wp2_with fail
        refine (same_yes _ _ _ _ _ _ y1 _ r1 r3 (by omega) (by omega)).mono ?_
        rintro e wi ⟨rfl, hi⟩
        have hi := hh.trans (hi.mono hh.size)
        go_wp2_with fail
        go_ret
        exact ⟨rfl, hi⟩
      · have f1 : ¬ (strOfNums y1).toList = (strOfNums y3).toList := fun h => V ((str_eq r1.2.1 r3.2.1).1 h)
        have f2 : ((strOfNums y1).toList == (strOfNums y3).toList) = false := by simpa using f1
        have HV : Hid (¬ y1 = y3) := V
        clear V
        go_wp2_with fail
        refine (same_yes _ _ _ _ _ _ y0 _ r0 r2 (by omega) (by omega)).mono ?_
        rintro e wh ⟨rfl, hh⟩
        have r1 := r1.below hh
        have r3 := r3.below hh
        have hh := hg.trans (hh.mono hg.size)
        go_wp2_with fail
        refine (same_no _ _ _ y1 _ _ _ y3 HV.out _ r1 r3 (by omega) (by omega)).mono ?_
        rintro e wi ⟨rfl, hi⟩
        have hi := hh.trans (hi.mono hh.size)
        go_wp2_with fail
        go_ret
        exact ⟨rfl, hi⟩
  · have f1 : ¬ (strOfNums y0).toList = (strOfNums y2).toList := fun h => K ((str_eq r0.2.1 r2.2.1).1 h)
    have f2 : ((strOfNums y0).toList == (strOfNums y2).toList) = false := by simpa using f1
    have HK : Hid (¬ y0 = y2) := K
    clear K
    go_wp2_with fail
    refine (same_no _ _ _ y0 _ _ _ y2 HK.out _ r0 r2 (by omega) (by omega)).mono ?_
    rintro e wh ⟨rfl, hh⟩
    have hh := hg.trans (hh.mono hg.size)
    go_wp2_with fail
    go_ret
    exact ⟨rfl, hh⟩
end Go.Proofs.Qxb6603367a.Bytes
