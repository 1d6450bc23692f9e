import Derived.Test.Qxb6603345aRows
import Derived.WalkKit
import Derived.WalkSpells
import Derived.WalkLawsBesides
import Derived.Deep.OwnRows
import Derived.Deep.QuietTactic
import Derived.BigQuiet
import Derived.Below
import Derived.WalkSmall
import Derived.Lib.SliceRun
namespace Go.Proofs.Qxb6603345a.Marks
open Go.RowKit

theorem info28 : (Try.prog.info? 28).map (fun i => (i.zero, i.size, i.bytes)) = some (some (.int .u64 0), 1, 8) := by kernel_rfl

set_option maxHeartbeats 400000 in
theorem newMarks_any (a0 a1 : Int) (n : Nat) (h0 : 0 ≤ a0) (h0' : a0 ≤ 9223372036854775807) (h1 : 0 ≤ a1) (h1' : a1 ≤ 9223372036854775807) (hp : 0 ≤ a0 * a1) (hp' : a0 * a1 ≤ 8388608) (hn : (a0 * a1 + 63) / 64 = (n : Int)) (hn' : n ≤ 131072) (w : World) :
    Calls Try.prog 10 #[.int .i64 a0, .int .i64 a1] w fun e w' => e = .returned (.agg #[.int .i64 a1, .slice (some ⟨w.heap.size + 1, 0, none⟩) n n]) ∧ Below w.heap.size w w' ∧ w'.rowIs (w.heap.size + 1) 28 n (fun _ => .int .u64 0) := by
  have hmk := run_make_row' (P := Try.prog) 22 28 (.int .u64 0) 8 Try.underlying22 info28 rfl .u64 .u64 n (by omega) (by omega)
  go_enter Try.func10, Try.ntmps10
  go_wp2
  exact bodyPost_ret (v := .agg #[.int .i64 a1, .slice (some ⟨w.heap.size + 1, 0, none⟩) n n]) (by simp [results, Try.results10, go_sem]) rfl
    ⟨rfl, ((Below.refl _ _).alloc (Nat.le_refl _) _).alloc (by simp) _, by simpa using World.rowIs_made (w.alloc (.cells #[.int .i64 a1, .slice (some ⟨w.heap.size + 1, 0, none⟩) n n] 24)) (.int .u64 0) n 28⟩

set_option maxHeartbeats 400000 in
theorem fields_any (c : Int) (v : Option Addr) (l k : Nat) (w : World) :
    Calls Try.prog 11 #[.agg #[.int .i64 c, .slice v l k]] w fun e w' => e = .returned (.tuple #[.int .i64 c, .slice v l k]) ∧ Below w.heap.size w w' := by
  go_enter Try.func11, Try.ntmps11
  go_wp2
  go_quiet (fail)
  go_wp2
  go_ret2
  exact ⟨rfl, below_drewN ((Below.refl _ _).alloc (Nat.le_refl _) _) _⟩

theorem prod_bd (a0 a1 : Int) (h0 : 0 ≤ a0) (h1 : 0 ≤ a1) (h : a1 = 0 ∨ (0 < a1 ∧ a0 ≤ 8388608 / a1)) : 0 ≤ a0 * a1 ∧ a0 * a1 ≤ 8388608 := by
  refine ⟨Int.mul_nonneg h0 h1, ?_⟩
  rcases h with h | h
  · subst h; simp
  · exact Int.le_trans (Int.mul_le_mul_of_nonneg_right h.2 h1) (Int.ediv_mul_le _ (by omega))

set_option maxHeartbeats 800000 in
theorem law (a0 a1 : Int) (h0' : a0 ≤ 9223372036854775807) (h1' : a1 ≤ 9223372036854775807) (w : World) :
    Calls Try.prog 3 #[.int .i64 a0, .int .i64 a1] w fun e w' => e = .returned (.bool true) ∧ Below w.heap.size w w' := by
  by_cases h0 : a0 < 0
  · go_enter Try.func3, Try.ntmps3
    go_wp2
    go_ret
    exact ⟨rfl, Below.refl _ _⟩
  by_cases h1 : a1 < 0
  · go_enter Try.func3, Try.ntmps3
    go_wp2
    go_ret
    exact ⟨rfl, Below.refl _ _⟩
  by_cases h2 : 0 < a1 ∧ 8388608 / a1 < a0
  · obtain ⟨h2, h3⟩ := h2
    go_enter Try.func3, Try.ntmps3
    go_wp2
    go_ret
    exact ⟨rfl, Below.refl _ _⟩
  have hp := prod_bd a0 a1 (by omega) (by omega) (by omega)
  obtain ⟨hp, hp'⟩ := hp
  obtain ⟨n, hn⟩ : ∃ n : Nat, (a0 * a1 + 63) / 64 = (n : Int) := ⟨((a0 * a1 + 63) / 64).toNat, by omega⟩
  have hn1 : n ≤ 131072 := by omega
  have hn2 : a0 * a1 ≤ (n : Int) * 64 := by omega
  have hn3 : 0 < n → (n : Int) * 64 - 64 < a0 * a1 := by omega
  have HN : Hid ((a0 * a1 + 63) / 64 = (n : Int)) := hn
  clear hn
  have q22 : ∀ (w : World) (a : Option Addr) (n c n' c' : Nat), (binOp .eql 22 (.slice a n c) (.slice none n' c')).run Try.prog w = .ok (.bool a.isNone) w := fun w a n c n' c' => Lib.run_eql_slice_nil w _ _ a n c n' c' Try.underlying22
  by_cases h4 : 0 < a1
  all_goals
    go_enter Try.func3, Try.ntmps3
    go_wp2_with fail
    refine (newMarks_any a0 a1 n (by omega) h0' (by omega) h1' hp hp' HN.out hn1 _).mono ?_
    rintro e w1 ⟨rfl, hb, hr⟩
    go_wp2_with fail
    refine (fields_any a1 _ n n _).mono ?_
    rintro e w2 ⟨rfl, hf⟩
    have hr2 : ∀ k, k < n → w2.cell? ⟨w.heap.size + 1, k, none⟩ = some (.int .u64 0) := by
      intro k hk; rw [hf.cell (by have := hr.lt; simp; omega)]; exact (hr.alloc _).cell hk
    have hb2 : Below w.heap.size w w2 := (hb.alloc hb.size _).trans (hf.mono (by have := hb.size; simp; omega))
    clear hf hb hr
    by_cases hpos : 0 < n
    all_goals
      go_wp2_with fail
      go_loop [10] (fun i => ∃ k : Nat, k ≤ n ∧ i = .int .i64 k) (fun i => n - (intOf i).toNat)
      case atStart => exact ⟨0, Nat.zero_le _, rfl⟩
      case round =>
        obtain ⟨k, hk, rfl⟩ := hrel
        by_cases hlt : k < n
        · have hc := hr2 k hlt
          clear hr2
          go_wp2
          go_round
          case rel => exact ⟨k + 1, by omega, by go_num⟩
          case measure => simp [intOf]; omega
        · clear hr2
          go_wp2
          go_ret
          exact ⟨rfl, hb2⟩
end Go.Proofs.Qxb6603345a.Marks
