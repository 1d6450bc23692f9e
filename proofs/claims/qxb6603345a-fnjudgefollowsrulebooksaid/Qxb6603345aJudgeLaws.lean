import Derived.Test.Qxb6603345aJudge
namespace Go.Proofs.Qxb6603345a.Judge
open Go.RowKit Go.Deep

theorem rulebook_any (o t : Bool) (w : World) :
    Calls Try.prog 22 #[.bool o, .bool t] w fun e w' => e = .returned (.tuple #[.int .u8 (stn o t), .int .u8 (flt o t)]) ∧ w' = w := by
  cases o <;> cases t
  all_goals
    go_enter Try.func22, Try.ntmps22
    go_wp2
    go_ret2
    exact ⟨rfl, rfl⟩

set_option maxHeartbeats 400000 in
theorem ballotIs_any (b : Nat) (wr nm : Int) (ca jd : Bool) (st fl : Int) (w : World) (hb : Blk w b (cs wr nm ca jd st fl) 53) :
    Calls Try.prog 21 #[.pointer (some ⟨b, 0, none⟩), .int .i64 wr, .int .i32 nm, .bool ca, .bool jd, .int .u8 st, .int .u8 fl] w fun e w' => e = .returned (.bool true) ∧ ∃ m, w' = w.drewN m := by
  go_enter Try.func21, Try.ntmps21
  go_wp2_with fail
  refine (fields_any b wr nm ca jd st fl _ hb).mono ?_
  rintro e w1 ⟨rfl, m, rfl⟩
  go_wp2
  go_ret
  exact ⟨rfl, _, rfl⟩

set_option maxHeartbeats 1000000 in
/-- FnJudgeFollowsRulebook returns true. -/
theorem follows (wr nm : Int) (ca jd : Bool) (st fl e s : Int) (v : Bool) (hn : -2147483648 ≤ nm) (hn' : nm ≤ 2147483647) (w : World) :
    Calls Try.prog 7 #[.int .i64 wr, .int .i32 nm, .bool ca, .bool jd, .int .u8 st, .int .u8 fl, .int .i64 e, .int .i64 s, .bool v] w fun en w' => en = .returned (.bool true) ∧ Below w.heap.size w w' := by
  cases ca
  · go_enter Try.func7, Try.ntmps7
    go_wp2_with fail
    refine (newBallot_any _ _ _ _ _ _ _).mono ?_
    rintro en w1 ⟨rfl, rfl⟩
    go_wp2_with fail
    have hk := Blk.new w (cs wr nm false jd st fl) 53
    refine (judge_no _ wr nm jd st fl _ _ _ _ hk).mono ?_
    rintro en w1 ⟨rfl, rfl⟩
    go_wp2_with fail
    refine (ballotIs_any _ _ _ _ _ _ _ _ hk).mono ?_
    rintro en w1 ⟨rfl, m, rfl⟩
    go_wp2_with fail
    go_ret
    exact ⟨rfl, below_drewN ((Below.refl _ _).alloc (Nat.le_refl _) _) _⟩
  · obtain ⟨o, HO⟩ : ∃ o, Hid (over wr e = o) := ⟨_, rfl⟩
    obtain ⟨t, HT⟩ : ∃ t, Hid (many nm s v = t) := ⟨_, rfl⟩
    have h1 : decide (e < wr) = o := HO.out
    have h2 : (v && decide (s < nm)) = t := HT.out
    go_enter Try.func7, Try.ntmps7
    go_wp2_with fail
    refine (newBallot_any _ _ _ _ _ _ _).mono ?_
    rintro en w1 ⟨rfl, rfl⟩
    go_wp2_with fail
    have hk := Blk.new w (cs wr nm true jd st fl) 53
    refine (judge_yes _ wr nm jd st fl _ _ _ _ hn hn' hk).mono ?_
    rintro en w1 ⟨rfl, hk1, hg⟩
    rw [HO.out, HT.out] at hk1
    clear hk
    have hb1 : Below w.heap.size w w1 := ((Below.refl _ _).alloc (Nat.le_refl _) _).grown hg (by simp) (fun k hk => by cases hk; exact Nat.le_refl _)
    clear hg
    cases v
    · obtain rfl : t = false := by simpa using h2.symm
      go_wp2_with fail
      refine (rulebook_any o false _).mono ?_
      rintro en w2 ⟨rfl, rfl⟩
      go_wp2_with fail
      refine (ballotIs_any _ _ _ _ _ _ _ _ hk1).mono ?_
      rintro en w3 ⟨rfl, m, rfl⟩
      go_wp2_with fail
      go_ret
      exact ⟨rfl, below_drewN hb1 _⟩
    · go_wp2_with fail
      refine (rulebook_any o t _).mono ?_
      rintro en w2 ⟨rfl, rfl⟩
      go_wp2_with fail
      refine (ballotIs_any _ _ _ _ _ _ _ _ hk1).mono ?_
      rintro en w3 ⟨rfl, m, rfl⟩
      go_wp2_with fail
      go_ret
      exact ⟨rfl, below_drewN hb1 _⟩

/-- Looser rules find no fault that tighter ones lack. -/
theorem looser (wr nm e1 e2 s1 s2 : Int) (v1 v2 : Bool) (he : e1 ≤ e2) (hs : s1 ≤ s2) (hv : v2 = true → v1 = true) :
    (over wr e2 = true → over wr e1 = true) ∧ (many nm s2 v2 = true → many nm s1 v1 = true) := by
  unfold over many
  refine ⟨fun h => ?_, fun h => ?_⟩
  · simp at h ⊢; omega
  · simp at h ⊢; exact ⟨hv h.1, by omega⟩

/-- What is left of the sixteen ways. -/
theorem nine (o1 o2 t1 t2 : Bool) (ho : o2 = true → o1 = true) (ht : t2 = true → t1 = true) (ts tf ls lf : Int) (h1 : stn o1 t1 = ts) (h2 : flt o1 t1 = tf) (h3 : stn o2 t2 = ls) (h4 : flt o2 t2 = lf) :
    (ts = 1 ∧ tf = 0 ∧ ls = 1 ∧ lf = 0) ∨ (ts = 2 ∧ tf = 1 ∧ ls = 1 ∧ lf = 0) ∨ (ts = 2 ∧ tf = 2 ∧ ls = 1 ∧ lf = 0) ∨ (ts = 2 ∧ tf = 3 ∧ ls = 1 ∧ lf = 0) ∨
    (ts = 2 ∧ tf = 1 ∧ ls = 2 ∧ lf = 1) ∨ (ts = 2 ∧ tf = 3 ∧ ls = 2 ∧ lf = 1) ∨ (ts = 2 ∧ tf = 2 ∧ ls = 2 ∧ lf = 2) ∨ (ts = 2 ∧ tf = 3 ∧ ls = 2 ∧ lf = 2) ∨ (ts = 2 ∧ tf = 3 ∧ ls = 2 ∧ lf = 3) := by
  subst h1 h2 h3 h4
  revert ho ht
  cases o1 <;> cases o2 <;> cases t1 <;> cases t2 <;> simp [stn, flt]

set_option maxHeartbeats 2000000 in
/-- FnJudgeLooserRulesVoidNoMore returns true. -/
theorem voidNoMore (wr nm : Int) (jd : Bool) (st fl e1 e2 s1 s2 : Int) (v1 v2 : Bool) (hn : -2147483648 ≤ nm) (hn' : nm ≤ 2147483647) (w : World) :
    Calls Try.prog 9 #[.int .i64 wr, .int .i32 nm, .bool jd, .int .u8 st, .int .u8 fl, .int .i64 e1, .int .i64 e2, .int .i64 s1, .int .i64 s2, .bool v1, .bool v2] w fun en w' => en = .returned (.bool true) ∧ Below w.heap.size w w' := by
  by_cases he : e2 < e1
  · go_enter Try.func9, Try.ntmps9
    go_wp2_with fail
    go_ret
    exact ⟨rfl, Below.refl _ _⟩
  by_cases hs : s2 < s1
  · go_enter Try.func9, Try.ntmps9
    go_wp2_with fail
    go_ret
    exact ⟨rfl, Below.refl _ _⟩
  by_cases hv : v2 = true ∧ v1 = false
  · obtain ⟨rfl, rfl⟩ := hv
    go_enter Try.func9, Try.ntmps9
    go_wp2_with fail
    go_ret
    exact ⟨rfl, Below.refl _ _⟩
  obtain ⟨L1, L2⟩ := looser wr nm e1 e2 s1 s2 v1 v2 (by omega) (by omega) (by intro h; cases v1 <;> simp_all)
  have HV : Hid (v2 = true → v1 = true) := by intro h; cases v1 <;> simp_all
  clear hv
  obtain ⟨o1, HO1⟩ : ∃ o, Hid (over wr e1 = o) := ⟨_, rfl⟩
  obtain ⟨t1, HT1⟩ : ∃ t, Hid (many nm s1 v1 = t) := ⟨_, rfl⟩
  obtain ⟨o2, HO2⟩ : ∃ o, Hid (over wr e2 = o) := ⟨_, rfl⟩
  obtain ⟨t2, HT2⟩ : ∃ t, Hid (many nm s2 v2 = t) := ⟨_, rfl⟩
  rw [HO1.out, HO2.out] at L1
  rw [HT1.out, HT2.out] at L2
  have HL1 : Hid (o2 = true → o1 = true) := L1
  have HL2 : Hid (t2 = true → t1 = true) := L2
  clear L1 L2
  have hvv : (v2 && !v1) = false := by have := HV.out; cases v1 <;> cases v2 <;> simp_all
  have b00 : bits BinOp.andNot IntKind.u8 0 0 = 0 := by decide
  have b01 : bits BinOp.andNot IntKind.u8 0 1 = 0 := by decide
  have b02 : bits BinOp.andNot IntKind.u8 0 2 = 0 := by decide
  have b03 : bits BinOp.andNot IntKind.u8 0 3 = 0 := by decide
  have b11 : bits BinOp.andNot IntKind.u8 1 1 = 0 := by decide
  have b13 : bits BinOp.andNot IntKind.u8 1 3 = 0 := by decide
  have b22 : bits BinOp.andNot IntKind.u8 2 2 = 0 := by decide
  have b23 : bits BinOp.andNot IntKind.u8 2 3 = 0 := by decide
  have b33 : bits BinOp.andNot IntKind.u8 3 3 = 0 := by decide
  rcases (show v2 = false ∨ (v2 = true ∧ v1 = true) by have := HV.out; cases v1 <;> cases v2 <;> simp_all) with h | ⟨h, h'⟩
  all_goals
    clear HV hvv
    subst h
    try subst h'
    go_enter Try.func9, Try.ntmps9
    go_wp2_with fail
    refine (newBallot_any _ _ _ _ _ _ _).mono ?_
    rintro en w1 ⟨rfl, rfl⟩
    go_wp2_with fail
    refine (newBallot_any _ _ _ _ _ _ _).mono ?_
    rintro en w1 ⟨rfl, rfl⟩
    go_wp2_with fail
    have hkA := (Blk.new w (cs wr nm true jd st fl) 53).alloc (.cells (cs wr nm true jd st fl) 53)
    have hkB : Blk ((w.alloc (.cells (cs wr nm true jd st fl) 53)).alloc (.cells (cs wr nm true jd st fl) 53)) (w.heap.size + 1) (cs wr nm true jd st fl) 53 := by
      have := Blk.new (w.alloc (.cells (cs wr nm true jd st fl) 53)) (cs wr nm true jd st fl) 53
      simpa using this
    refine (judge_yes _ wr nm jd st fl _ _ _ _ hn hn' hkA).mono ?_
    rintro en w2 ⟨rfl, hk2, hg2⟩
    have hkB2 := hkB.same (hg2.block _ hkB.lt (by simp))
    have hb2 : Below w.heap.size w w2 := (((Below.refl _ _).alloc (Nat.le_refl _) _).alloc (by simp) _).grown hg2 (by simp; omega) (fun k hk => by cases hk; exact Nat.le_refl _)
    have hz2 : w.heap.size ≤ w2.heap.size := hb2.size
    clear hkA hkB hg2
    go_wp2_with fail
    refine (judge_yes _ wr nm jd st fl _ _ _ _ hn hn' hkB2).mono ?_
    rintro en w3 ⟨rfl, hk3, hg3⟩
    have hkA3 := hk2.same (hg3.block _ hk2.lt (by simp))
    have hb3 : Below w.heap.size w w3 := hb2.grown hg3 hz2 (fun k hk => by cases hk; omega)
    clear hk2 hkB2 hg3 hz2 hb2
    rw [HO1.out, HT1.out] at hkA3
    rw [HO2.out, HT2.out] at hk3
    obtain ⟨ts, HS1⟩ : ∃ x, Hid (stn o1 t1 = x) := ⟨_, rfl⟩
    obtain ⟨tf, HF1⟩ : ∃ x, Hid (flt o1 t1 = x) := ⟨_, rfl⟩
    obtain ⟨ls, HS2⟩ : ∃ x, Hid (stn o2 t2 = x) := ⟨_, rfl⟩
    obtain ⟨lf, HF2⟩ : ∃ x, Hid (flt o2 t2 = x) := ⟨_, rfl⟩
    have HN := nine o1 o2 t1 t2 HL1.out HL2.out ts tf ls lf HS1.out HF1.out HS2.out HF2.out
    rw [HS1.out, HF1.out] at hkA3
    rw [HS2.out, HF2.out] at hk3
    clear HS1 HF1 HS2 HF2 HO1 HT1 HO2 HT2 HL1 HL2
    go_wp2_with fail
    refine (fields_any _ _ _ _ _ _ _ _ hkA3).mono ?_
    rintro en w4 ⟨rfl, m4, rfl⟩
    go_wp2_with fail
    have hk4 : Blk (w3.drewN m4) _ _ _ := hk3.same rfl
    refine (fields_any _ _ _ _ _ _ _ _ hk4).mono ?_
    rintro en w5 ⟨rfl, m5, rfl⟩
    clear hk4 hk3 hkA3
    rcases HN with ⟨rfl, rfl, rfl, rfl⟩ | ⟨rfl, rfl, rfl, rfl⟩ | ⟨rfl, rfl, rfl, rfl⟩ | ⟨rfl, rfl, rfl, rfl⟩ | ⟨rfl, rfl, rfl, rfl⟩ | ⟨rfl, rfl, rfl, rfl⟩ | ⟨rfl, rfl, rfl, rfl⟩ | ⟨rfl, rfl, rfl, rfl⟩ | ⟨rfl, rfl, rfl, rfl⟩
    all_goals
      go_wp2_with fail
      go_ret
      exact ⟨rfl, below_drewN hb3 _⟩
end Go.Proofs.Qxb6603345a.Judge
