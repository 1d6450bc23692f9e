import Derived.Test.Qxb6002789aOps
import Derived.LaidEqlPtr
namespace Go.Proofs.Qxb6002789a.Tok
open Go.RowKit Go.Deep Go.ChangeShapes Lk

/-- A pointer to entry b. -/
def pp (b : Nat) : Value := .pointer (some ⟨b, 0, none⟩)

/-! ### Slices of pointers -/
def PR (w : World) (a : Option Addr) (n : Nat) (l : List Nat) : Prop :=
  l.length = n ∧ (a = none → n = 0) ∧ (0 < n → ∃ b o, a = some ⟨b, o, none⟩ ∧ b < w.heap.size ∧ ∀ i, i < n → w.cell? ⟨b, o + i, none⟩ = some (.pointer (some ⟨l.getD i 0, 0, none⟩)))
def PL (w : World) (base : Nat) (v : Value) (l : List Nat) : Prop := w.ownsRow base 34 1 v l.length (l.map pp)

theorem PL.shape {w : World} {base : Nat} {v : Value} {l : List Nat} (h : PL w base v l) : ∃ a c, v = .slice a l.length c ∧ PR w a l.length l ∧ (∀ g, v.ownBlock = some g → base ≤ g ∧ g < w.heap.size) := by
  obtain ⟨h1, h2⟩ := h
  rcases h2 with ⟨rfl, h0⟩ | ⟨g, cap, cur, rfl, hg, hh, hc1, hc2, hs, ht⟩
  · refine ⟨none, 0, by rw [h0], ⟨rfl, fun _ => h0, fun hp => by omega⟩, ?_⟩
    intro g hg
    simp [Value.ownBlock] at hg
  · refine ⟨some ⟨g, 0, none⟩, cap, rfl, ⟨rfl, (fun h => by cases h), fun hp => ⟨g, 0, rfl, lt_of_block hh, fun i hi => ?_⟩⟩, ?_⟩
    · have e : cur[i]? = some (.pointer (some ⟨l.getD i 0, 0, none⟩)) := by
        have h3 : (cur.toList.take (l.length * 1))[i]? = (l.map pp)[i]? := by rw [ht]
        rw [List.getElem?_take_of_lt (by omega)] at h3
        simp [hi, pp] at h3
        simpa [List.getD, hi] using h3
      simp [World.cell?, hh, e]
    · intro g' hg'
      simp [Value.ownBlock] at hg'
      subst hg'
      exact ⟨hg, lt_of_block hh⟩
theorem PL.blk {w : World} {base : Nat} {v : Value} {l : List Nat} (h : PL w base v l) : ∀ g, v.ownBlock = some g → base ≤ g ∧ g < w.heap.size := by
  obtain ⟨_, _, _, _, hb⟩ := h.shape
  exact hb
theorem PL.same {w w' : World} {base : Nat} {v : Value} {l : List Nat} (h : PL w base v l) (hb : ∀ g, v.ownBlock = some g → w'.heap[g]? = w.heap[g]?) : PL w' base v l := by
  obtain ⟨h1, h2⟩ := h
  refine ⟨h1, ?_⟩
  rcases h2 with h2 | ⟨g, cap, cur, rfl, hg, hh, r⟩
  · exact .inl h2
  · exact .inr ⟨g, cap, cur, rfl, hg, (hb g rfl).trans hh, r⟩
theorem PL.below {w w' : World} {base : Nat} {v : Value} {l : List Nat} (h : PL w base v l) (hb : Below w.heap.size w w') : PL w' base v l := h.same (fun g hg => hb.block g (h.blk g hg).2)
theorem PL.row {w : World} {base : Nat} {v : Value} {l : List Nat} (h : PL w base v l) : ∀ g, v.ownBlock = some g → ∃ c, w.heap[g]? = some (.cells c 34 (0, 0)) := by
  intro g hg
  obtain ⟨h1, h2⟩ := h
  rcases h2 with ⟨rfl, _⟩ | ⟨g', cap, cur, rfl, _, hh, _⟩
  · cases hg
  · cases hg
    exact ⟨_, hh⟩
theorem PL.kp {w w' : World} {base b : Nat} {v : Value} {l : List Nat} (h : PL w base v l) (hk : Kp b w w') : PL w' base v l :=
  h.same (fun g hg => by
    obtain ⟨c, hc⟩ := h.row g hg
    exact hk.block g (lt_of_block hc) (.inr ⟨c, 34, _, hc, by decide, by decide⟩))
theorem PL.drewN {w : World} {base : Nat} {v : Value} {l : List Nat} (h : PL w base v l) (n : Nat) : PL (w.drewN n) base v l := h.same (fun _ _ => rfl)

/-- Two entries that are not one: their pointers are not equal. -/
theorem ptr_other {w : World} {x y : Nat} {cx cy : Array Value} (hx : Blk w x cx 53) (hy : Blk w y cy 53) (hne : x ≠ y) : (binOp .eql 34 (.pointer (some ⟨x, 0, none⟩)) (.pointer (some ⟨y, 0, none⟩))).run Try.prog w = .ok (.bool false) w := by
  obtain ⟨i, hi, _, h2, _⟩ := info_parts (P := Try.prog) (e := 53) (z := .agg #[.string ⟨#[]⟩, .int .u64 0, .int .u64 0, .bool false, .pointer none, .pointer none]) (size := 6) (bytes := 56) (by kernel_rfl)
  exact run_eql_ptr_other w Try.underlying34 hi (by rw [h2]; decide) (fun e => hne (congrArg Addr.block e)) hx hy

/-! ### Slices of bools -/
def BR (w : World) (a : Option Addr) (n : Nat) (l : List Bool) : Prop :=
  l.length = n ∧ (a = none → n = 0) ∧ (0 < n → ∃ b o, a = some ⟨b, o, none⟩ ∧ b < w.heap.size ∧ ∀ i, i < n → w.cell? ⟨b, o + i, none⟩ = some (.bool (l.getD i false)))
/-- A slice of bools of the call's own. -/
def BL (w : World) (a : Option Addr) (l : List Bool) : Prop := 0 < l.length → ∃ g, a = some ⟨g, 0, none⟩ ∧ w.rowIs g 4 l.length (fun j => .bool (l.getD j false))
theorem BL.kp {w w' : World} {b : Nat} {a : Option Addr} {l : List Bool} (h : BL w a l) (hk : Kp b w w') : BL w' a l := by
  intro hp
  obtain ⟨g, e, hr⟩ := h hp
  refine ⟨g, e, hr.of_block ?_⟩
  obtain ⟨c, hc, _⟩ := hr
  exact hk.block g (lt_of_block hc) (.inr ⟨c, 4, _, hc, by decide, by decide⟩)
theorem BL.below {w w' : World} {a : Option Addr} {l : List Bool} (h : BL w a l) (hb : Below w.heap.size w w') : BL w' a l := by
  intro hp
  obtain ⟨g, e, hr⟩ := h hp
  exact ⟨g, e, hr.of_block (hb.block g hr.lt)⟩

theorem step_rowb (l : List Bool) (k : Nat) (j : Nat) (s : Bool) (hs : s = l.getD k false) : (if j = k then Value.bool s else if j < k then .bool (l.getD j false) else .bool false) = if j < k + 1 then .bool (l.getD j false) else .bool false := by
  subst hs
  by_cases h : j = k
  · subst h; simp
  · by_cases h' : j < k
    · rw [if_neg h, if_pos h', if_pos (by omega)]
    · rw [if_neg h, if_neg h', if_neg (by omega)]

def CloneB (w : World) (l : List Bool) (e : Ending) (w' : World) : Prop :=
  ∃ a', e = .returned (.slice a' l.length l.length) ∧ BL w' a' l ∧ Below w.heap.size w w'

set_option maxHeartbeats 400000 in
theorem cloneBools_any (a : Option Addr) (n cap : Nat) (l : List Bool) (w : World) (hz : BR w a n l) (hlen : n ≤ 1048576) :
    Calls Try.prog 7 #[.slice a n cap] w (CloneB w l) := by
  have q23 : ∀ (w : World) (a : Option Addr) (n c n' c' : Nat), (binOp .eql 23 (.slice a n c) (.slice none n' c')).run Try.prog w = .ok (.bool a.isNone) w := fun w a n c n' c' => Lib.run_eql_slice_nil w _ _ a n c n' c' Try.underlying23
  have hmk := run_make_row' (P := Try.prog) 23 4 (.bool false) 1 Try.underlying23 info4 rfl .i64 .i64 n (by omega) (by omega)
  obtain ⟨hl, h0, h1⟩ := hz
  cases a with
  | none =>
    obtain rfl := h0 rfl
    obtain rfl : l = [] := List.eq_nil_of_length_eq_zero hl
    clear h0 h1
    go_enter Try.func7, Try.ntmps7
    go_wp2
    go_ret
    exact ⟨none, rfl, (fun h => by simp at h), Below.refl _ _⟩
  | some x =>
    by_cases hp : 0 < n
    · obtain ⟨b, off, e, hb, hc'⟩ := h1 hp
      cases e
      clear h0 h1
      have HL : Hid (l.length = n) := hl
      clear hl
      go_enter Try.func7, Try.ntmps7
      go_wp2
      go_loopw [4] (fun i wr => ∃ k : Nat, k ≤ n ∧ i = .int .i64 k ∧ wr.rowIs w.heap.size 4 n (fun j => if j < k then .bool (l.getD j false) else .bool false) ∧ Below w.heap.size w wr) (fun i _ => n - (intOf i).toNat)
      case atStart => exact ⟨0, Nat.zero_le _, rfl, (World.rowIs_made w (.bool false) n 4).congr (fun i _ => by simp), (Below.refl _ _).alloc (Nat.le_refl _) _⟩
      case round =>
        obtain ⟨k, hk, rfl, hr, hnx⟩ := hrel
        by_cases hlt : k < n
        · obtain ⟨s, hs⟩ : ∃ s, s = l.getD k false := ⟨_, rfl⟩
          have c1 : wr.cell? ⟨b, off + k, none⟩ = some (.bool s) := by rw [hs]; exact (hnx.cell hb).trans (hc' k (by omega))
          have HS : Hid (s = l.getD k false) := hs
          have c2 := hr.cell hlt
          have f2 := hr.frozen k
          simp only [Nat.lt_irrefl, if_false] at c2
          clear hc' hs
          go_wp2
          go_roundw
          case rel => exact ⟨k + 1, by omega, by go_num, (hr.set k _).congr (fun j _ => step_rowb l k j s HS.out), hnx.setCell (Nat.le_refl _) _⟩
          case measure => simp [intOf]; omega
        · obtain rfl : k = n := by omega
          clear hc'
          go_wp2
          go_ret
          have e := HL.out
          subst e
          exact ⟨_, rfl, (fun _ => ⟨_, rfl, hr.congr (fun j hj => by simp [hj])⟩), hnx⟩
    · obtain rfl : n = 0 := by omega
      obtain rfl : l = [] := List.eq_nil_of_length_eq_zero hl
      have hmk0 : ∀ w, (Instr.makeSlice 23 (.int .i64 0) (.int .i64 0)).run Try.prog w = .ok (.slice (some ⟨w.heap.size, 0, none⟩) 0 0) (w.alloc (.cells (madeCells #[.bool false] 0) 4)) := hmk
      clear h0 h1 hmk
      go_enter Try.func7, Try.ntmps7
      go_wp2
      go_loop [4] (fun i => i = .int .i64 0) (fun _ => 0)
      case atStart => rfl
      case round =>
        subst hrel
        go_wp2
        go_ret
        exact ⟨_, rfl, (fun h => by simp at h), (Below.refl _ _).alloc (Nat.le_refl _) _⟩

set_option maxHeartbeats 1000000 in
theorem zzBytes3_any (fg : Int) (a1 : Option Addr) (n1 c1 : Nat) (a2 : Option Addr) (n2 c2 : Nat) (l2 : List ByteArray) (w : World) (h2 : SR w a2 n2 l2) :
    Calls Try.prog 5 #[.int .u64 fg, .slice a1 n1 c1, .slice a2 n2 c2] w (BoolOut w) := by
  obtain ⟨_, _, p2⟩ := h2
  have H2 : Hid (0 < n2 → ∃ b o, a2 = some ⟨b, o, none⟩ ∧ b < w.heap.size ∧ ∀ i, i < n2 → w.cell? ⟨b, o + i, none⟩ = some (.string (l2.getD i ByteArray.empty))) := p2
  clear p2
  by_cases hn1 : 1048576 < n1
  · go_enter Try.func5, Try.ntmps5
    go_wp2
    go_ret
    exact ⟨rfl, _, rfl⟩
  by_cases hn2 : 1048576 < n2
  · go_enter Try.func5, Try.ntmps5
    go_wp2
    go_ret
    exact ⟨rfl, _, rfl⟩
  go_enter Try.func5, Try.ntmps5
  go_wp2
  · go_ret
    exact ⟨rfl, _, rfl⟩
  go_loop [7, 8] (IntSlot n2) (fun _ i => n2 - (intOf i).toNat)
  case atStart => exact ⟨0, _, Nat.zero_le _, rfl, rfl⟩
  case round =>
    obtain ⟨k', s', hk', rfl, rfl⟩ := hrel
    by_cases hlt' : k' < n2
    · obtain ⟨b, off, rfl, _, hc⟩ := H2.out (by omega)
      have c1 := hc k' hlt'
      generalize l2.getD k' ByteArray.empty = u at c1
      clear hc H2
      go_wp2
      · go_ret
        exact ⟨rfl, _, rfl⟩
      · go_ret
        exact ⟨rfl, _, rfl⟩
      · go_round
        case rel => exact ⟨k' + 1, _, by omega, by go_num, rfl⟩
        case measure => simp [intOf]; omega
    · clear H2
      go_wp2
      all_goals
        go_ret
        exact ⟨rfl, _, rfl⟩
end Go.Proofs.Qxb6002789a.Tok
