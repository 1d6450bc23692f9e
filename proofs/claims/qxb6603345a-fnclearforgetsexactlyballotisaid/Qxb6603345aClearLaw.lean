import Derived.Test.Qxb6603345aClear
namespace Go.Proofs.Qxb6603345a.Clear
open Go.RowKit Go.Deep Go.ChangeShapes Bits

theorem span_int (A B : Int) (a b : Nat) (hA : A = a) (hB : B = b) (hab : a < b) (hb : b ≤ 64) (w : World) :
    Calls Try.prog 17 #[.int .i64 A, .int .i64 B] w fun e w' => e = .returned (.int .u64 (span a (b - a) : Nat)) ∧ w' = w := by
  subst hA hB; exact span_any a b hab hb w

theorem hit (f : Nat → Nat) (hf : ∀ w, f w < 18446744073709551616) (lo c w a b : Nat) (ha : a = lo - 64 * w) (hab : a < b) (hb : b ≤ 64) (hb' : (b = 64 ∧ 64 * w + 64 ≤ lo + c) ∨ 64 * w + b = lo + c) :
    bits .andNot .u64 (f w : Int) (span a (b - a) : Nat) = (V f lo c w : Int) := by
  rw [V_hit f hf lo c w a b ha hab hb hb']
  exact u64_andNot_nat _ _ (hf w) (span_lt _ _ (by omega))

theorem miss (f : Nat → Nat) (hf : ∀ w, f w < 18446744073709551616) (lo c w : Nat) (h : lo + c ≤ 64 * w ∨ 64 * w + 64 ≤ lo ∨ c = 0) : (V f lo c w : Int) = (f w : Int) := by
  rw [V_miss f hf lo c w h]

/-- The numbers of a ballot that fits. -/
theorem nums (c i : Int) (n : Nat) (hn : n ≤ 131072) (hc : 0 < c) (h : c = 0 ∨ 0 ≤ i ∧ i < (n : Int) * 64 / c) :
    ∃ p lo : Nat, c = (p : Int) ∧ i * (p : Int) = (lo : Int) ∧ 0 < p ∧ p ≤ 8388608 ∧ 0 < n ∧ 0 ≤ i ∧ i ≤ 8388608 ∧ lo + p ≤ 64 * n := by
  obtain ⟨h0, h1⟩ : 0 ≤ i ∧ i < (n : Int) * 64 / c := by
    rcases h with h | h
    · omega
    · exact h
  have h2 : (i + 1) * c ≤ (n : Int) * 64 := (Int.le_ediv_iff_mul_le hc).1 (by omega)
  have h3 : (n : Int) * 64 / c ≤ (n : Int) * 64 := Int.ediv_le_self _ (by omega)
  have h4 : 0 ≤ i * c := Int.mul_nonneg h0 (by omega)
  rw [Int.add_mul, Int.one_mul] at h2
  refine ⟨c.toNat, (i * c).toNat, by omega, ?_, by omega, by omega, by omega, h0, by omega, by omega⟩
  rw [Int.toNat_of_nonneg (by omega), Int.toNat_of_nonneg h4]

set_option maxHeartbeats 1000000 in
/-- FnClearForgetsExactlyBallotI returns true. -/
theorem forgets (c i : Int) (hc0 : -9223372036854775808 ≤ c) (hc1 : c ≤ 9223372036854775807) (_hi0 : -9223372036854775808 ≤ i) (_hi1 : i ≤ 9223372036854775807) (a : Option Addr) (n cap : Nat) (f : Nat → Nat) (hf : ∀ j, f j < 18446744073709551616) (w : World) (hs : Src w a n f) :
    Calls Try.prog 5 #[.int .i64 c, .slice a n cap, .int .i64 i] w fun e w' => e = .returned (.bool true) ∧ Below w.heap.size w w' := by
  go_enter Try.func5, Try.ntmps5
  go_wp2_with fail
  refine (zzBytes_any _ _ _ _ _ _).mono ?_
  rintro e wa ⟨b, rfl, rfl⟩
  cases b
  · go_wp2_with fail
    go_ret
    exact ⟨rfl, Below.refl _ _⟩
  by_cases hn : 131072 < n
  · go_wp2_with fail
    go_ret
    exact ⟨rfl, Below.refl _ _⟩
  go_wp2_with fail
  refine (fits_any c i n (by omega) _).mono ?_
  rintro e wb ⟨b, rfl, rfl, hfit⟩
  cases b
  · go_wp2_with fail
    go_ret
    exact ⟨rfl, Below.refl _ _⟩
  obtain ⟨hc, hfit⟩ := hfit rfl
  go_wp2_with fail
  refine (clone_any a n cap f _ hs (by omega)).mono ?_
  rintro e w1 ⟨a1, rfl, hz1, hb1, hr1⟩
  go_wp2_with fail
  refine (clone_any a1 n n f _ ⟨hz1, fun hp => ⟨_, 0, (hr1 hp).1, (hr1 hp).2.lt, fun j hj => by simpa using (hr1 hp).2.cell hj⟩⟩ (by omega)).mono ?_
  rintro e w2 ⟨a2, rfl, hz2, hb2, hr2⟩
  have hq1 : 0 < n → w2.rowIs wb.heap.size 28 n (fun j => .int .u64 (f j : Int)) := fun hp => (hr1 hp).2.of_block (hb2.block _ (hr1 hp).2.lt)
  have ha1 : 0 < n → a1 = some ⟨wb.heap.size, 0, none⟩ := fun hp => (hr1 hp).1
  have hb2' := hb1.trans (hb2.mono hb1.size)
  have hwlt : 0 < n → wb.heap.size < w1.heap.size := fun hp => (hr1 hp).2.lt
  clear hr1 hb2
  go_wp2_with fail
  refine (marksOf_any c a2 n n _).mono ?_
  rintro e w3 ⟨rfl, hb3⟩
  have hw1 : wb.heap.size ≤ w1.heap.size := hb1.size
  have hb3' := (hb3.alloc hb3.size (.cells #[.int .i64 c, .slice a2 n n] 24))
  have hr1 : 0 < n → (w3.alloc (.cells #[.int .i64 c, .slice a2 n n] 24)).rowIs wb.heap.size 28 n (fun j => .int .u64 (f j : Int)) := fun hp => (hq1 hp).of_block (hb3'.block _ (hq1 hp).lt)
  have hr2' : 0 < n → a2 = some ⟨w1.heap.size, 0, none⟩ ∧ (w3.alloc (.cells #[.int .i64 c, .slice a2 n n] 24)).rowIs w1.heap.size 28 n (fun j => .int .u64 (f j : Int)) := fun hp => ⟨(hr2 hp).1, (hr2 hp).2.of_block (hb3'.block _ (hr2 hp).2.lt)⟩
  have hb3 := hb2'.trans (hb3'.mono hb2'.size)
  have hne : 0 < n → wb.heap.size < w1.heap.size := hwlt
  clear hb3' hr2 hq1 hb2' hs hz1 hz2 hb1
  by_cases hcz : c = 0
  · subst hcz
    clear hfit
    go_wp2_with fail
    refine (clear_none a2 n n i _).mono ?_
    rintro e w4 ⟨rfl, hb4⟩
    have hb4' := hb3.trans (hb4.mono hb3.size)
    have k1 : ∀ k, k < n → w4.cell? ⟨wb.heap.size, k, none⟩ = some (.int .u64 (f k : Int)) := fun k hk => (hb4.cell (hr1 (by omega)).lt).trans ((hr1 (by omega)).cell hk)
    have k2 : ∀ k, k < n → w4.cell? ⟨w1.heap.size, k, none⟩ = some (.int .u64 (f k : Int)) := fun k hk => (hb4.cell (hr2' (by omega)).2.lt).trans ((hr2' (by omega)).2.cell hk)
    have a2e : 0 < n → a2 = some ⟨w1.heap.size, 0, none⟩ := fun hp => (hr2' hp).1
    clear hr1 hr2' hb4 hb3
    by_cases hp : 0 < n
    · obtain rfl := ha1 hp
      obtain rfl := a2e hp
      clear ha1 a2e
      go_wp2_with fail
      go_loop [11, 12, 13, 14, 15] (fun t _ _ _ _ => ∃ k : Nat, k ≤ n ∧ t = .int .i64 k) (fun t _ _ _ _ => n - (intOf t).toNat)
      case atStart => exact ⟨0, Nat.zero_le _, rfl⟩
      case round =>
        obtain ⟨k, hk, rfl⟩ := hrel
        by_cases hlt : k < n
        · have c1 := k1 k hlt
          have c2 := k2 k hlt
          clear k1 k2
          go_wp2_with fail
          all_goals
            go_round
            case rel => exact ⟨k + 1, by omega, by go_num⟩
            case measure => simp [intOf]; omega
        · clear k1 k2
          go_wp2_with fail
          go_ret
          exact ⟨rfl, hb4'⟩
    · obtain rfl : n = 0 := by omega
      clear k1 k2 ha1 a2e hne
      go_wp2_with fail
      go_loop [11, 12, 13, 14, 15] (fun t _ _ _ _ => t = .int .i64 0) (fun _ _ _ _ _ => 0)
      case atStart => rfl
      case round =>
        subst hrel
        go_wp2_with fail
        go_ret
        exact ⟨rfl, hb4'⟩
  · obtain ⟨p, lo, rfl, hmul, hp0, hpn, hn0, hi0', hi1', hlo⟩ := nums c i n (by omega) (by omega) (by omega)
    clear hfit hcz hc hc0 hc1
    obtain ⟨rfl, hr2⟩ := hr2' hn0
    obtain rfl := ha1 hn0
    have hr1 := hr1 hn0
    have hne := hne hn0
    clear hr2' ha1
    have HM : Hid (i * (p : Int) = (lo : Int)) := hmul
    clear hmul
    go_wp2_with fail
    refine (clear_some p lo w1.heap.size n i f hf (by omega) hlo hi0' hi1' HM.out _ hr2).mono ?_
    rintro e w4 ⟨rfl, hq2, hg4⟩
    have hq1 := hr1.of_block (hg4.block _ hr1.lt (by simp; omega))
    have hb4 := hb3.grown hg4 hb3.size (fun k hk => by cases hk; omega)
    clear hr1 hr2 hg4 hb3
    have hm : i * (p : Int) = (lo : Int) := HM.out
    go_wp2_with fail
    go_loop [11, 12, 13, 14, 15] (fun t _ _ _ _ => ∃ k : Nat, k ≤ n ∧ t = .int .i64 k) (fun t _ _ _ _ => n - (intOf t).toNat)
    case atStart => exact ⟨0, Nat.zero_le _, rfl⟩
    case round =>
      obtain ⟨k, hk, rfl⟩ := hrel
      clear hm HM
      by_cases hlt : k < n
      · have c1 := hq1.cell hlt
        have c2 := hq2.cell hlt
        have HH := hit f hf lo p k
        have HM := miss f hf lo p k
        go_wp2_with fail
        · refine (span_int _ _ 0 64 (by omega) (by omega) (by omega) (by omega) _).mono ?_
          rintro e w5 ⟨rfl, rfl⟩
          have hv := HH 0 64 (by omega) (by omega) (by omega) (by omega)
          clear HH HM
          go_wp2_with fail
          go_round
          case rel => exact ⟨k + 1, by omega, by go_num⟩
          case measure => simp [intOf]; omega
        · refine (span_int _ _ 0 (lo + p - 64 * k) (by omega) (by omega) (by omega) (by omega) _).mono ?_
          rintro e w5 ⟨rfl, rfl⟩
          have hv := HH 0 (lo + p - 64 * k) (by omega) (by omega) (by omega) (by omega)
          rw [Nat.sub_zero] at hv
          clear HH HM
          go_wp2_with fail
          go_round
          case rel => exact ⟨k + 1, by omega, by go_num⟩
          case measure => simp [intOf]; omega
        · go_round
          case rel => exact ⟨k + 1, by omega, by go_num⟩
          case measure => simp [intOf]; omega
        · refine (span_int _ _ (lo - 64 * k) 64 (by omega) (by omega) (by omega) (by omega) _).mono ?_
          rintro e w5 ⟨rfl, rfl⟩
          have hv := HH (lo - 64 * k) 64 (by omega) (by omega) (by omega) (by omega)
          clear HH HM
          go_wp2_with fail
          go_round
          case rel => exact ⟨k + 1, by omega, by go_num⟩
          case measure => simp [intOf]; omega
        · go_round
          case rel => exact ⟨k + 1, by omega, by go_num⟩
          case measure => simp [intOf]; omega
        · refine (span_int _ _ (lo - 64 * k) (lo + p - 64 * k) (by omega) (by omega) (by omega) (by omega) _).mono ?_
          rintro e w5 ⟨rfl, rfl⟩
          have hv := HH (lo - 64 * k) (lo + p - 64 * k) (by omega) (by omega) (by omega) (by omega)
          clear HH HM
          go_wp2_with fail
          go_round
          case rel => exact ⟨k + 1, by omega, by go_num⟩
          case measure => simp [intOf]; omega
      · go_wp2_with fail
        go_ret
        exact ⟨rfl, hb4⟩
end Go.Proofs.Qxb6603345a.Clear
