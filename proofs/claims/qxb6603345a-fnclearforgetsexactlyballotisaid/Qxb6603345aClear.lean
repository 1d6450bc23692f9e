import Derived.Test.Qxb6603345aRows
import Derived.Test.Qxb6603345aBits
import Derived.WalkKit
import Derived.WalkSpells
import Derived.WalkLawsBesides
import Derived.OpenShut
import Derived.Deep.OwnRows
import Derived.Deep.QuietTactic
import Derived.BigQuiet
import Derived.Below
import Derived.WalkSmall
import Derived.Lib.SliceRun
namespace Go.Proofs.Qxb6603345a.Clear
open Go.RowKit Go.Deep Go.ChangeShapes Bits

theorem info28 : (Try.prog.info? 28).map (fun i => (i.zero, i.size, i.bytes)) = some (some (.int .u64 0), 1, 8) := by kernel_rfl

/-- A slice of words: what the walk is told of it. -/
def Src (w : World) (a : Option Addr) (len : Nat) (f : Nat → Nat) : Prop :=
  (a = none → len = 0) ∧ (0 < len → ∃ b o, a = some ⟨b, o, none⟩ ∧ b < w.heap.size ∧ ∀ i, i < len → w.cell? ⟨b, o + i, none⟩ = some (.int .u64 (f i : Int)))

theorem step_row (f : Nat → Nat) (k : Nat) (j : Nat) : (if j = k then Value.int .u64 (f k : Int) else if j < k then .int .u64 (f j : Int) else .int .u64 0) = if j < k + 1 then .int .u64 (f j : Int) else .int .u64 0 := by
  by_cases h : j = k
  · subst h; simp
  · by_cases h' : j < k
    · rw [if_neg h, if_pos h', if_pos (by omega)]
    · rw [if_neg h, if_neg h', if_neg (by omega)]

/-- What zzvClone hands back: a slice of its own. -/
def CloneTo (w : World) (len : Nat) (f : Nat → Nat) (e : Ending) (w' : World) : Prop :=
  ∃ a', e = .returned (.slice a' len len) ∧ (a' = none → len = 0) ∧ Below w.heap.size w w' ∧ (0 < len → a' = some ⟨w.heap.size, 0, none⟩ ∧ w'.rowIs w.heap.size 28 len (fun j => .int .u64 (f j : Int)))
/-- What zzvClearFits says. -/
def FitsOut (c i : Int) (n : Nat) (w : World) (e : Ending) (w' : World) : Prop :=
  ∃ b, e = .returned (.bool b) ∧ w' = w ∧ (b = true → 0 ≤ c ∧ (c = 0 ∨ (0 ≤ i ∧ i < (n : Int) * 64 / c)))

set_option maxHeartbeats 400000 in
theorem clone_any (a : Option Addr) (len cap : Nat) (f : Nat → Nat) (w : World) (hz : Src w a len f) (hlen : len ≤ 131072) :
    Calls Try.prog 15 #[.slice a len cap] w (CloneTo w len f) := by
  have q22 : ∀ (w : World) (a : Option Addr) (n c n' c' : Nat), (binOp .eql 22 (.slice a n c) (.slice none n' c')).run Try.prog w = .ok (.bool a.isNone) w := fun w a n c n' c' => Lib.run_eql_slice_nil w _ _ a n c n' c' Try.underlying22
  have hmk := run_make_row' (P := Try.prog) 22 28 (.int .u64 0) 8 Try.underlying22 info28 rfl .i64 .i64 len (by omega) (by omega)
  obtain ⟨h0, h1⟩ := hz
  cases a with
  | none =>
    obtain rfl := h0 rfl
    clear h0 h1
    go_enter Try.func15, Try.ntmps15
    go_wp2
    go_ret
    unfold CloneTo
    exact ⟨none, rfl, fun _ => rfl, Below.refl _ _, fun h => by omega⟩
  | some x =>
    by_cases hp : 0 < len
    · obtain ⟨b, off, e, hb, hc'⟩ := h1 hp
      cases e
      clear h0 h1
      go_enter Try.func15, Try.ntmps15
      go_wp2
      go_loopw [4] (fun i wr => ∃ k : Nat, k ≤ len ∧ i = .int .i64 k ∧ wr.rowIs w.heap.size 28 len (fun j => if j < k then .int .u64 (f j : Int) else .int .u64 0) ∧ Below w.heap.size w wr) (fun i _ => len - (intOf i).toNat)
      case atStart => exact ⟨0, Nat.zero_le _, rfl, (World.rowIs_made w (.int .u64 0) len 28).congr (fun i _ => by simp), (Below.refl _ _).alloc (Nat.le_refl _) _⟩
      case round =>
        obtain ⟨k, hk, rfl, hr, hnx⟩ := hrel
        by_cases hlt : k < len
        · have c1 : wr.cell? ⟨b, off + k, none⟩ = some (.int .u64 (f k : Int)) := (hnx.cell hb).trans (hc' k (by omega))
          have c2 := hr.cell hlt
          have f2 := hr.frozen k
          simp only [Nat.lt_irrefl, if_false] at c2
          clear hc'
          go_wp2
          go_roundw
          case rel => exact ⟨k + 1, by omega, by go_num, (hr.set k _).congr (fun j _ => step_row f k j), hnx.setCell (Nat.le_refl _) _⟩
          case measure => simp [intOf]; omega
        · obtain rfl : k = len := by omega
          clear hc'
          go_wp2
          go_ret
          unfold CloneTo
          exact ⟨_, rfl, (fun h => by cases h), hnx, fun _ => ⟨rfl, hr.congr (fun j hj => by simp [hj])⟩⟩
    · obtain rfl : len = 0 := by omega
      have hmk0 : ∀ w, (Instr.makeSlice 22 (.int .i64 0) (.int .i64 0)).run Try.prog w = .ok (.slice (some ⟨w.heap.size, 0, none⟩) 0 0) (w.alloc (.cells (madeCells #[.int .u64 0] 0) 28)) := hmk
      clear h0 h1 hmk
      go_enter Try.func15, Try.ntmps15
      go_wp2
      go_loop [4] (fun i => i = .int .i64 0) (fun _ => 0)
      case atStart => rfl
      case round =>
        subst hrel
        go_wp2
        go_ret
        unfold CloneTo
        exact ⟨_, rfl, fun _ => rfl, (Below.refl _ _).alloc (Nat.le_refl _) _, fun h => by omega⟩

set_option maxHeartbeats 400000 in
theorem zzBytes_any (c i : Int) (a : Option Addr) (n cap : Nat) (w : World) :
    Calls Try.prog 13 #[.int .i64 c, .slice a n cap, .int .i64 i] w fun e w' => ∃ b, e = .returned (.bool b) ∧ w' = w := by
  go_enter Try.func13, Try.ntmps13
  go_wp2
  all_goals
    go_ret
    exact ⟨_, rfl, rfl⟩

set_option maxHeartbeats 400000 in
theorem marksOf_any (c : Int) (a : Option Addr) (n cap : Nat) (w : World) :
    Calls Try.prog 16 #[.int .i64 c, .slice a n cap] w fun e w' => e = .returned (.agg #[.int .i64 c, .slice a n cap]) ∧ Below w.heap.size w w' := by
  go_enter Try.func16, Try.ntmps16
  go_wp2
  exact bodyPost_ret (v := .agg #[.int .i64 c, .slice a n cap]) (by simp [results, Try.results16, go_sem]) rfl ⟨rfl, (Below.refl _ _).alloc (Nat.le_refl _) _⟩

set_option maxHeartbeats 400000 in
theorem fits_any (c i : Int) (n : Nat) (hn : n ≤ 131072) (w : World) :
    Calls Try.prog 14 #[.int .i64 c, .int .i64 n, .int .i64 i] w (FitsOut c i n w) := by
  by_cases h0 : c < 0
  · go_enter Try.func14, Try.ntmps14
    go_wp2
    go_ret
    unfold FitsOut
    exact ⟨_, rfl, rfl, fun h => by cases h⟩
  by_cases h1 : c = 0
  · subst h1
    go_enter Try.func14, Try.ntmps14
    go_wp2
    go_ret
    unfold FitsOut
    exact ⟨_, rfl, rfl, fun _ => ⟨by omega, .inl rfl⟩⟩
  by_cases h2 : i < 0
  · go_enter Try.func14, Try.ntmps14
    go_wp2
    go_ret
    unfold FitsOut
    exact ⟨_, rfl, rfl, fun h => by cases h⟩
  have h3 : 0 < c := by omega
  go_enter Try.func14, Try.ntmps14
  go_wp2
  go_ret
  unfold FitsOut
  exact ⟨decide (i < (n : Int) * 64 / c), rfl, rfl, fun h => ⟨by omega, .inr ⟨by omega, of_decide_eq_true h⟩⟩⟩

theorem span_wide (a b : Nat) (hb : b ≤ 64) (h : 64 ≤ b - a) : IntKind.u64.wrap (18446744073709551615 * 2 ^ a) = ((span a (b - a) : Nat) : Int) := by
  obtain rfl : a = 0 := by omega
  obtain rfl : b = 64 := by omega
  decide
theorem span_narrow (a b : Nat) (hab : a < b) (hb : b ≤ 64) (h : b - a < 64) : IntKind.u64.wrap (IntKind.u64.wrap (IntKind.u64.wrap (2 ^ (b - a)) - 1) * 2 ^ a) = ((span a (b - a) : Nat) : Int) := by
  have h1 := pow_lt (b - a) h
  have h2 := Nat.two_pow_pos (b - a)
  have h3 := span_lt a (b - a) (by omega)
  have e1 : ((2 : Int) ^ (b - a)) = ((2 ^ (b - a) : Nat) : Int) := by simp
  have e2 : ((2 : Int) ^ a) = ((2 ^ a : Nat) : Int) := by simp
  rw [IntKind.wrap_u64, IntKind.wrap_u64, IntKind.wrap_u64, e1, e2]
  have e3 : (((2 ^ (b - a) : Nat) : Int) % 18446744073709551616 - 1) % 18446744073709551616 = ((2 ^ (b - a) - 1 : Nat) : Int) := by omega
  rw [e3, ← Int.natCast_mul]
  show ((span a (b - a) : Nat) : Int) % 18446744073709551616 = _
  omega

set_option maxHeartbeats 400000 in
theorem span_any (a b : Nat) (hab : a < b) (hb : b ≤ 64) (w : World) :
    Calls Try.prog 17 #[.int .i64 a, .int .i64 b] w fun e w' => e = .returned (.int .u64 (span a (b - a) : Nat)) ∧ w' = w := by
  by_cases h : 64 ≤ b - a
  · have H := span_wide a b hb h
    go_enter Try.func17, Try.ntmps17
    go_wp2
    go_ret
    exact ⟨rfl, rfl⟩
  · have H := span_narrow a b hab hb (by omega)
    go_enter Try.func17, Try.ntmps17
    go_wp2
    go_ret
    exact ⟨rfl, rfl⟩

set_option maxHeartbeats 400000 in
theorem first_any (c lo : Nat) (a : Option Addr) (n cap : Nat) (i : Int) (hc : c ≤ 8388608) (hl : lo ≤ 8388608) (hi : c = 0 ∧ lo = 0 ∨ 0 ≤ i ∧ i ≤ 8388608 ∧ i * (c : Int) = (lo : Int)) (w : World) :
    Calls Try.prog 25 #[.agg #[.int .i64 c, .slice a n cap], .int .i64 i] w fun e w' => e = .returned (.int .u64 lo) ∧ Below w.heap.size w w' := by
  rcases hi with ⟨rfl, rfl⟩ | ⟨h0, h1, h2⟩
  · go_enter Try.func25, Try.ntmps25
    go_wp2
    go_ret
    exact ⟨rfl, (Below.refl _ _).alloc (Nat.le_refl _) _⟩
  · have h3 : i * (c : Int) ≤ 8388608 := by omega
    have h4 : 0 ≤ i * (c : Int) := by omega
    have H : Hid (i * (c : Int) = (lo : Int)) := h2
    clear h2
    go_enter Try.func25, Try.ntmps25
    go_wp2
    go_ret
    exact ⟨by rw [← H.out]; rfl, (Below.refl _ _).alloc (Nat.le_refl _) _⟩

set_option maxHeartbeats 400000 in
/-- Clear of a ballot without a candidate turns nothing. -/
theorem clear_none (a : Option Addr) (n cap : Nat) (i : Int) (w : World) :
    Calls Try.prog 12 #[.agg #[.int .i64 0, .slice a n cap], .int .i64 i] w fun e w' => e = .returned (.tuple #[]) ∧ Below w.heap.size w w' := by
  go_enter Try.func12, Try.ntmps12
  go_wp2_with fail
  refine (first_any 0 0 a n cap i (by omega) (by omega) (.inl ⟨rfl, rfl⟩) _).mono ?_
  rintro e w1 ⟨rfl, hb⟩
  obtain ⟨hc, hf⟩ : (∀ b o, b < w.heap.size + 1 → w1.cell? ⟨b, o, none⟩ = (w.alloc (.cells #[.int .i64 0, .slice a n cap] 24)).cell? ⟨b, o, none⟩) ∧ (∀ b o, b < w.heap.size + 1 → w1.frozen? ⟨b, o, none⟩ = (w.alloc (.cells #[.int .i64 0, .slice a n cap] 24)).frozen? ⟨b, o, none⟩) :=
    ⟨fun b o h => hb.cell (p := ⟨b, o, none⟩) (by simpa using h), fun b o h => hb.frozen (p := ⟨b, o, none⟩) (by simpa using h)⟩
  go_wp2_with fail
  go_loop [5] (fun t => t = .int .u64 0) (fun _ => 0)
  case atStart => rfl
  case round =>
    subst hrel
    go_wp2
    go_end0
    exact ⟨rfl, ((Below.refl _ _).alloc (Nat.le_refl _) _).trans (hb.mono (by simp))⟩

theorem V_step (f : Nat → Nat) (lo p : Nat) (h : lo ≤ p) : V f lo (p + 1 - lo) = clr (V f lo (p - lo)) p := by
  obtain ⟨k, rfl⟩ : ∃ k, p = lo + k := ⟨p - lo, by omega⟩
  rw [show lo + k + 1 - lo = k + 1 by omega, show lo + k - lo = k by omega]
  rfl

theorem clr_val (x q : Nat) (hx : x < 18446744073709551616) (hq : q < 64) : bits .andNot .u64 (x : Int) (IntKind.u64.wrap (2 ^ q)) = ((x &&& (18446744073709551615 - 2 ^ q) : Nat) : Int) := by
  have h1 := pow_lt q hq
  have e1 : ((2 : Int) ^ q) = ((2 ^ q : Nat) : Int) := by simp
  rw [IntKind.wrap_u64, e1]
  generalize 2 ^ q = y at h1
  rw [show (y : Int) % 18446744073709551616 = (y : Int) by omega]
  exact u64_andNot_nat x y hx h1

theorem clr_row (f : Nat → Nat) (hf : ∀ j, f j < 18446744073709551616) (lo p : Nat) (h : lo ≤ p) (j : Nat) :
    (if j = p / 64 then Value.int .u64 (bits .andNot .u64 (V f lo (p - lo) (p / 64) : Int) (IntKind.u64.wrap (2 ^ (p % 64)))) else .int .u64 (V f lo (p - lo) j : Int)) = .int .u64 (V f lo (p + 1 - lo) j : Int) := by
  rw [V_step f lo p h, clr_val _ _ (V_lt f hf lo _ _) (Nat.mod_lt _ (by decide))]
  unfold clr
  by_cases e : j = p / 64
  · subst e; simp
  · simp [e]

theorem grown_set (w : World) (b i : Nat) (u : Value) : w.grownBy (w.setCell ⟨b, i, none⟩ u) (some b) :=
  ⟨rfl, rfl, rfl, by simp [World.setCell], fun k _ hk => Below.heap_setCell _ _ _ _ (fun e => hk (by rw [e]))⟩
theorem grown_trans {a b c : World} {row : Option Nat} (h : a.grownBy b row) (k : b.grownBy c row) : a.grownBy c row :=
  ⟨k.os.trans h.os, k.tape.trans h.tape, k.output.trans h.output, Nat.le_trans h.size k.size, fun i hi hr => (k.block i (Nat.lt_of_lt_of_le hi h.size) hr).trans (h.block i hi hr)⟩

set_option maxHeartbeats 400000 in
/-- Clear takes away the bits of a ballot, one by one. -/
theorem clear_some (c lo : Nat) (B n : Nat) (i : Int) (f : Nat → Nat) (hf : ∀ j, f j < 18446744073709551616) (hn : n ≤ 131072) (hlo : lo + c ≤ 64 * n) (hi0 : 0 ≤ i) (hi1 : i ≤ 8388608) (hi : i * (c : Int) = (lo : Int)) (w : World) (hr : w.rowIs B 28 n (fun j => .int .u64 (f j : Int))) :
    Calls Try.prog 12 #[.agg #[.int .i64 c, .slice (some ⟨B, 0, none⟩) n n], .int .i64 i] w fun e w' => e = .returned (.tuple #[]) ∧ w'.rowIs B 28 n (fun j => .int .u64 (V f lo c j : Int)) ∧ w.grownBy w' (some B) := by
  have HI : Hid (i * (c : Int) = (lo : Int)) := hi
  have HB := hr.lt
  clear hi
  go_enter Try.func12, Try.ntmps12
  go_wp2_with fail
  refine (first_any c lo _ n n i (by omega) (by omega) (.inr ⟨hi0, hi1, HI.out⟩) _).mono ?_
  rintro e w1 ⟨rfl, hb⟩
  have hr1 := (hr.alloc (.cells #[.int .i64 c, .slice (some ⟨B, 0, none⟩) n n] 24)).of_block (hb.block _ (by simp; omega))
  have m0 : w1.cell? ⟨w.heap.size, 0, none⟩ = some (.int .i64 c) := by rw [hb.cell (by simp)]; simp
  have m1 : w1.cell? ⟨w.heap.size, 1, none⟩ = some (.slice (some ⟨B, 0, none⟩) n n) := by rw [hb.cell (by simp)]; simp
  have hlt1 : w.heap.size < w1.heap.size := by have := hb.size; simp at this; omega
  have hg1 : w.grownBy w1 (some B) := ⟨hb.os, hb.tape, hb.output, by omega, fun k hk _ => (hb.block k (by simp; omega)).trans (Below.heap_alloc _ _ _ hk)⟩
  clear hb hr
  go_wp2_with fail
  go_loopw [5] (fun t wr => ∃ p : Nat, lo ≤ p ∧ p ≤ lo + c ∧ t = .int .u64 p ∧ wr.rowIs B 28 n (fun j => .int .u64 (V f lo (p - lo) j : Int)) ∧ w1.grownBy wr (some B)) (fun t _ => lo + c - (intOf t).toNat)
  case atStart => exact ⟨lo, Nat.le_refl _, by omega, rfl, by simpa [V] using hr1, ⟨rfl, rfl, rfl, Nat.le_refl _, fun _ _ _ => rfl⟩⟩
  case round =>
    obtain ⟨p, hp1, hp2, rfl, hrr, hgr⟩ := hrel
    have n0 : wr.cell? ⟨w.heap.size, 0, none⟩ = some (.int .i64 c) := (World.cell?_of_block (w := w1) (hgr.block _ hlt1 (by simp; omega))).trans m0
    have n1 : wr.cell? ⟨w.heap.size, 1, none⟩ = some (.slice (some ⟨B, 0, none⟩) n n) := (World.cell?_of_block (w := w1) (hgr.block _ hlt1 (by simp; omega))).trans m1
    by_cases hlt : p < lo + c
    · have hidx : p / 64 < n := by omega
      have k0 := hrr.cell hidx
      have k1 := hrr.frozen (p / 64)
      clear m0 m1
      go_wp2
      go_roundw
      case rel => exact ⟨p + 1, by omega, by omega, by go_num, (hrr.set (p / 64) _).congr (fun j _ => clr_row f hf lo p hp1 j), grown_trans hgr (grown_set _ _ _ _)⟩
      case measure => simp [intOf]; omega
    · obtain rfl : p = lo + c := by omega
      clear m0 m1
      go_wp2
      go_end0
      rw [show lo + c - lo = c by omega] at hrr
      exact ⟨rfl, hrr, grown_trans hg1 hgr⟩
end Go.Proofs.Qxb6603345a.Clear
