import Derived.Test.Qxb6603367aRows
import Derived.WalkKit
import Derived.WalkSpells
import Derived.WalkLawsBesides
import Derived.OpenShut
import Derived.Deep.OwnRows
import Derived.Deep.QuietTactic
import Derived.BigQuiet
import Derived.Below
import Derived.WalkSmall
import Derived.Lib.SliceRun
import Derived.Lib.ConvBytes
import Derived.Laws.BytesArg
import Derived.Laws.BytesString
namespace Go.Proofs.Qxb6603367a.Bytes
open Go.RowKit Go.Deep Go.ChangeShapes

theorem info5 : (Try.prog.info? 5).map (fun i => (i.zero, i.size, i.bytes)) = some (some (.int .u8 0), 1, 1) := by kernel_rfl

/-- A slice of bytes that came in: as the given shells have it. -/
def IsRow (k : IntKind) (w : World) (a : Option Addr) (len cap : Nat) (zs : List Int) : Prop :=
  (a = none ∧ len = 0 ∧ cap = 0 ∧ zs = []) ∨
  ∃ x, a = some x ∧ len ≤ cap ∧ cap ≤ maxLen ∧ zs.length = cap ∧ (∀ i, i < zs.length → w.cell? (x.add i) = some (.int k (zs.getD i 0))) ∧ ∀ n ∈ zs, (Lit.int k n).wf = true

/-- A slice whose n elements are the bytes zs, read in w. -/
def Row (w : World) (a : Option Addr) (n : Nat) (zs : List Int) : Prop :=
  zs.length = n ∧ (∀ z ∈ zs, 0 ≤ z ∧ z ≤ 255) ∧ (0 < n → ∃ b, a = some ⟨b, 0, none⟩ ∧ b < w.heap.size ∧ ∀ i, i < n → w.cell? ⟨b, i, none⟩ = some (.int .u8 (zs.getD i 0)))

theorem Row.below {w w' : World} {a : Option Addr} {n : Nat} {zs : List Int} (h : Row w a n zs) (hb : Below w.heap.size w w') : Row w' a n zs := by
  obtain ⟨h1, h2, h3⟩ := h
  refine ⟨h1, h2, fun hp => ?_⟩
  obtain ⟨b, e, hl, hc⟩ := h3 hp
  exact ⟨b, e, Nat.lt_of_lt_of_le hl hb.size, fun i hi => (hb.cell hl).trans (hc i hi)⟩

theorem step_row (zs : List Int) (k : Nat) (j : Nat) : (if j = k then Value.int .u8 (zs.getD k 0) else if j < k then .int .u8 (zs.getD j 0) else .int .u8 0) = if j < k + 1 then .int .u8 (zs.getD j 0) else .int .u8 0 := by
  by_cases h : j = k
  · subst h; simp
  · by_cases h' : j < k
    · rw [if_neg h, if_pos h', if_pos (by omega)]
    · rw [if_neg h, if_neg h', if_neg (by omega)]

set_option maxHeartbeats 400000 in
theorem clone_any (a : Option Addr) (len cap : Nat) (zs : List Int) (w : World) (hz : IsRow .u8 w a len cap zs) (hlen : len ≤ 1048576) :
    Calls Try.prog 6 #[.slice a len cap] w fun e w' => ∃ a', e = .returned (.slice a' len len) ∧ Below w.heap.size w w' ∧ Row w' a' len (zs.take len) := by
  have q22 : ∀ (w : World) (a : Option Addr) (n c n' c' : Nat), (binOp .eql 22 (.slice a n c) (.slice none n' c')).run Try.prog w = .ok (.bool a.isNone) w := fun w a n c n' c' => Lib.run_eql_slice_nil w _ _ a n c n' c' Try.underlying22
  have hmk := run_make_row' (P := Try.prog) 22 5 (.int .u8 0) 1 Try.underlying22 info5 rfl .i64 .i64 len (by omega) (by omega)
  rcases hz with ⟨rfl, rfl, rfl, rfl⟩ | ⟨x, rfl, hl, hm, hzl, hc, hw⟩
  · go_enter Try.func6, Try.ntmps6
    go_wp2
    go_ret
    exact ⟨none, rfl, Below.refl _ _, rfl, by simp, fun h => by omega⟩
  · have hwf : ∀ z ∈ zs.take len, 0 ≤ z ∧ z ≤ 255 := fun z hz => bounds_u8 (hw z (List.mem_of_mem_take hz))
    by_cases hp : 0 < len
    · obtain ⟨b, off, rfl, hc'⟩ := ints_at hc (by omega)
      have hb : b < w.heap.size := World.block_lt_of_cell? w _ (hc' 0 (by omega))
      clear hc hw
      go_enter Try.func6, Try.ntmps6
      go_wp2
      go_loopw [4] (fun i wr => ∃ k : Nat, k ≤ len ∧ i = .int .i64 k ∧ wr.rowIs w.heap.size 5 len (fun j => if j < k then .int .u8 (zs.getD j 0) else .int .u8 0) ∧ Below w.heap.size w wr) (fun i _ => len - (intOf i).toNat)
      case atStart => exact ⟨0, Nat.zero_le _, rfl, (World.rowIs_made w (.int .u8 0) len 5).congr (fun i _ => by simp), (Below.refl _ _).alloc (Nat.le_refl _) _⟩
      case round =>
        obtain ⟨k, hk, rfl, hr, hnx⟩ := hrel
        by_cases hlt : k < len
        · have c1 : wr.cell? ⟨b, off + k, none⟩ = some (.int .u8 (zs.getD k 0)) := (hnx.cell hb).trans (hc' k (by omega))
          have c2 := hr.cell hlt
          have f2 := hr.frozen k
          simp only [Nat.lt_irrefl, if_false] at c2
          clear hc'
          go_wp2
          go_roundw
          case rel => exact ⟨k + 1, by omega, by go_num, (hr.set k _).congr (fun j _ => step_row zs k j), hnx.setCell (Nat.le_refl _) _⟩
          case measure => simp [intOf]; omega
        · obtain rfl : k = len := by omega
          clear hc'
          go_wp2
          go_ret
          refine ⟨_, rfl, hnx, by simp; omega, hwf, fun _ => ⟨_, rfl, hr.lt, fun i hi => ?_⟩⟩
          rw [hr.cell hi, if_pos hi]
          simp [List.getD, hi]
    · obtain rfl : len = 0 := by omega
      have hmk0 : ∀ w, (Instr.makeSlice 22 (.int .i64 0) (.int .i64 0)).run Try.prog w = .ok (.slice (some ⟨w.heap.size, 0, none⟩) 0 0) (w.alloc (.cells (madeCells #[.int .u8 0] 0) 5)) := hmk
      clear hc hw hwf hmk
      go_enter Try.func6, Try.ntmps6
      go_wp2
      go_loop [4] (fun i => i = .int .i64 0) (fun _ => 0)
      case atStart => rfl
      case round =>
        subst hrel
        go_wp2
        go_ret
        exact ⟨_, rfl, (Below.refl _ _).alloc (Nat.le_refl _) _, rfl, by simp, fun h => by omega⟩

theorem ne_at {z1 z2 : List Int} {k : Nat} (e : (z1[k]?.getD 0 != z2[k]?.getD 0) = true) : ¬ z1 = z2 := by
  intro h
  subst h
  simp at e
theorem take_same {z1 z2 : List Int} {n k : Nat} (l1 : z1.length = n) (l2 : z2.length = n) (hk : k < n) (h : z1.take k = z2.take k) (e : (z1[k]?.getD 0 != z2[k]?.getD 0) = false) : z1.take (k + 1) = z2.take (k + 1) := by
  rw [List.take_succ_eq_append_getElem (by omega), List.take_succ_eq_append_getElem (by omega), h]
  simp [List.getElem?_eq_getElem (show k < z1.length by omega), List.getElem?_eq_getElem (show k < z2.length by omega)] at e
  rw [e]

set_option maxHeartbeats 400000 in
/-- sameBytesB1 compares two slices of bytes. -/
theorem same_any (a1 : Option Addr) (n1 c1 : Nat) (z1 : List Int) (a2 : Option Addr) (n2 c2 : Nat) (z2 : List Int) (w : World) (h1 : Row w a1 n1 z1) (h2 : Row w a2 n2 z2) (hn1 : n1 ≤ 1048576) (hn2 : n2 ≤ 1048576) :
    Calls Try.prog 8 #[.slice a1 n1 c1, .slice a2 n2 c2] w fun e w' => e = .returned (.bool (decide (z1 = z2))) ∧ Below w.heap.size w w' := by
  obtain ⟨l1, b1, r1⟩ := h1
  obtain ⟨l2, b2, r2⟩ := h2
  by_cases hn : n1 = n2
  · subst hn
    by_cases hp : 0 < n1
    · obtain ⟨x1, rfl, hx1, k1⟩ := r1 hp
      obtain ⟨x2, rfl, hx2, k2⟩ := r2 hp
      have HB1 : Hid (∀ z ∈ z1, 0 ≤ z ∧ z ≤ 255) := b1
      have HB2 : Hid (∀ z ∈ z2, 0 ≤ z ∧ z ≤ 255) := b2
      have HL1 : Hid (z1.length = n1) := l1
      have HL2 : Hid (z2.length = n1) := l2
      have g0 : ((n1 : Int) != (n1 : Int)) = false := by simp
      clear r1 r2 b1 b2 l1 l2
      go_enter Try.func8, Try.ntmps8
      go_wp2
      go_loopw [5] (fun i wr => ∃ k : Nat, k ≤ n1 ∧ i = .int .i64 k ∧ z1.take k = z2.take k ∧ ∃ m, wr = w.drewN m) (fun i _ => n1 - (intOf i).toNat)
      case atStart => exact ⟨0, Nat.zero_le _, rfl, by simp, 0, rfl⟩
      case round =>
        obtain ⟨k, hk, rfl, HT, m, rfl⟩ := hrel
        have HT' : Hid (z1.take k = z2.take k) := HT
        clear HT
        by_cases hlt : k < n1
        · have d1 := k1 k hlt
          have d2 := k2 k hlt
          clear k1 k2
          go_wp2
          go_quiet (fail)
          go_wp2
          · go_ret
            refine ⟨?_, below_drewN (below_drewN (Below.refl _ _) _) _⟩
            rw [decide_eq_false (ne_at ‹_›)]
            rfl
          · go_roundw
            case rel => exact ⟨k + 1, by omega, by go_num, take_same HL1.out HL2.out hlt HT'.out ‹_›, _, rfl⟩
            case measure => simp [intOf]; omega
        · obtain rfl : k = n1 := by omega
          clear k1 k2
          go_wp2
          go_ret
          refine ⟨?_, below_drewN (Below.refl _ _) _⟩
          have := HT'.out
          rw [List.take_of_length_le (Nat.le_of_eq HL1.out), List.take_of_length_le (Nat.le_of_eq HL2.out)] at this
          rw [decide_eq_true this]
          rfl
    · obtain rfl : n1 = 0 := by omega
      have e1 : z1 = [] := List.eq_nil_of_length_eq_zero l1
      have e2 : z2 = [] := List.eq_nil_of_length_eq_zero l2
      subst e1 e2
      clear r1 r2 b1 b2
      go_enter Try.func8, Try.ntmps8
      go_wp2
      go_loop [5] (fun i => i = .int .i64 0) (fun _ => 0)
      case atStart => rfl
      case round =>
        subst hrel
        go_wp2
        go_ret
        exact ⟨rfl, Below.refl _ _⟩
  · have g0 : ((n1 : Int) != (n2 : Int)) = true := by simpa using (by omega : ¬ (n1 : Int) = n2)
    have e : decide (z1 = z2) = false := decide_eq_false (fun e => hn (by rw [← l1, ← l2, e]))
    rw [e]
    clear r1 r2 b1 b2 l1 l2 e hn
    go_enter Try.func8, Try.ntmps8
    go_wp2
    go_ret
    exact ⟨rfl, Below.refl _ _⟩
end Go.Proofs.Qxb6603367a.Bytes
