import Derived.Test.Qxb6002789aRows
import Derived.Test.Qxb6002789aList
import Derived.WalkKit
import Derived.WalkSpells
import Derived.WalkLawsBesides
import Derived.OpenShut
import Derived.Deep.OwnRows
import Derived.Deep.QuietTactic
import Derived.BigQuiet
import Derived.Below
import Derived.WalkSmall
import Derived.OneCell
import Derived.Lib.SliceRun
import Derived.Laws.AppendOwn
import Derived.Maps.AppendAt
namespace Go.Proofs.Qxb6002789a.Tok
open Go.RowKit Go.Deep Go.ChangeShapes

theorem info9 : (Try.prog.info? 9).map (fun i => (i.zero, i.size, i.bytes)) = some (some (.string ⟨#[]⟩), 1, 16) := by kernel_rfl
theorem info4 : (Try.prog.info? 4).map (fun i => (i.zero, i.size, i.bytes)) = some (some (.bool false), 1, 1) := by kernel_rfl
theorem info34 : (Try.prog.info? 34).map (fun i => (i.zero, i.size, i.bytes)) = some (some (.pointer none), 1, 8) := by kernel_rfl

/-! ### Blocks -/
/-- Block b is a row of the cells cs, of type t, none frozen. -/
def Blk (w : World) (b : Nat) (cs : Array Value) (t : TypeId) : Prop := w.heap[b]? = some (.cells cs t (0, 0))

theorem Blk.cell {w : World} {b : Nat} {cs : Array Value} {t : TypeId} (h : Blk w b cs t) {i : Nat} {v : Value} (hv : cs[i]? = some v) : w.cell? ⟨b, i, none⟩ = some v := by
  unfold Blk at h; simp [World.cell?, h, hv]
theorem Blk.free {w : World} {b : Nat} {cs : Array Value} {t : TypeId} (h : Blk w b cs t) (i : Nat) : w.frozen? ⟨b, i, none⟩ = false := by
  unfold Blk at h; simp [World.frozen?, h]
theorem Blk.lt {w : World} {b : Nat} {cs : Array Value} {t : TypeId} (h : Blk w b cs t) : b < w.heap.size := lt_of_block h
theorem Blk.set {w : World} {b : Nat} {cs : Array Value} {t : TypeId} (h : Blk w b cs t) (i : Nat) (u : Value) : Blk (w.setCell ⟨b, i, none⟩ u) b (cs.setIfInBounds i u) t := by
  unfold Blk at *; simp [World.setCell, Array.getElem?_modify, h]
theorem Blk.same {w w' : World} {b : Nat} {cs : Array Value} {t : TypeId} (h : Blk w b cs t) (e : w'.heap[b]? = w.heap[b]?) : Blk w' b cs t := e.trans h
theorem Blk.setOther {w : World} {b : Nat} {cs : Array Value} {t : TypeId} (h : Blk w b cs t) {c : Nat} (hc : b ≠ c) (i : Nat) (u : Value) : Blk (w.setCell ⟨c, i, none⟩ u) b cs t := h.same (Below.heap_setCell _ _ _ _ hc)
theorem Blk.new (w : World) (cs : Array Value) (t : TypeId) : Blk (w.alloc (.cells cs t)) w.heap.size cs t := blk_alloc_new _ _
theorem Blk.alloc {w : World} {b : Nat} {cs : Array Value} {t : TypeId} (h : Blk w b cs t) (o : Obj) : Blk (w.alloc o) b cs t := h.same (blk_alloc_lt _ _ _ h.lt)
theorem Blk.drew {w : World} {b : Nat} {cs : Array Value} {t : TypeId} (h : Blk w b cs t) : Blk w.drew b cs t := h
theorem Blk.as {w : World} {b : Nat} {cs cs' : Array Value} {t : TypeId} (h : Blk w b cs t) (e : cs = cs') : Blk w b cs' t := e ▸ h

/-! ### Slices of strings -/
/-- A slice of n strings l, as it reads in w. -/
def SR (w : World) (a : Option Addr) (n : Nat) (l : List ByteArray) : Prop :=
  l.length = n ∧ (a = none → n = 0) ∧ (0 < n → ∃ b o, a = some ⟨b, o, none⟩ ∧ b < w.heap.size ∧ ∀ i, i < n → w.cell? ⟨b, o + i, none⟩ = some (.string (l.getD i ByteArray.empty)))

theorem SR.below {w w' : World} {a : Option Addr} {n : Nat} {l : List ByteArray} (h : SR w a n l) (hb : Below w.heap.size w w') : SR w' a n l := by
  obtain ⟨h1, h2, h3⟩ := h
  refine ⟨h1, h2, fun hp => ?_⟩
  obtain ⟨b, o, e, hl, hc⟩ := h3 hp
  exact ⟨b, o, e, Nat.lt_of_lt_of_le hl hb.size, fun i hi => (hb.cell hl).trans (hc i hi)⟩

/-- A slice of strings of the call's own. -/
def SL (w : World) (base : Nat) (v : Value) (l : List ByteArray) : Prop := w.ownsRow base 9 1 v l.length (l.map Value.string)

theorem SL.shape {w : World} {base : Nat} {v : Value} {l : List ByteArray} (h : SL w base v l) : ∃ a c, v = .slice a l.length c ∧ SR w a l.length l ∧ (∀ g, v.ownBlock = some g → base ≤ g ∧ g < w.heap.size) := by
  obtain ⟨h1, h2⟩ := h
  rcases h2 with ⟨rfl, h0⟩ | ⟨g, cap, cur, rfl, hg, hh, hc1, hc2, hs, ht⟩
  · refine ⟨none, 0, by rw [h0], ⟨rfl, fun _ => h0, fun hp => by omega⟩, ?_⟩
    intro g hg
    simp [Value.ownBlock] at hg
  · refine ⟨some ⟨g, 0, none⟩, cap, rfl, ⟨rfl, (fun h => by cases h), fun hp => ⟨g, 0, rfl, lt_of_block hh, fun i hi => ?_⟩⟩, ?_⟩
    · have hi' : i < cur.size := by omega
      have e : cur[i]? = some (.string (l.getD i ByteArray.empty)) := by
        have h3 : (cur.toList.take (l.length * 1))[i]? = (l.map Value.string)[i]? := by rw [ht]
        rw [List.getElem?_take_of_lt (by omega)] at h3
        simp [hi] at h3
        simpa [List.getD, hi] using h3
      simp [World.cell?, hh, e]
    · intro g' hg'
      simp [Value.ownBlock] at hg'
      subst hg'
      exact ⟨hg, lt_of_block hh⟩

theorem SL.blk {w : World} {base : Nat} {v : Value} {l : List ByteArray} (h : SL w base v l) : ∀ g, v.ownBlock = some g → base ≤ g ∧ g < w.heap.size := by
  obtain ⟨_, _, _, _, hb⟩ := h.shape
  exact hb
theorem SL.weaken {w : World} {base base' : Nat} {v : Value} {l : List ByteArray} (h : SL w base v l) (hb : base' ≤ base) : SL w base' v l := by
  obtain ⟨h1, h2⟩ := h
  refine ⟨h1, ?_⟩
  rcases h2 with h2 | ⟨g, cap, cur, e, hg, r⟩
  · exact .inl h2
  · exact .inr ⟨g, cap, cur, e, Nat.le_trans hb hg, r⟩
theorem SL.same {w w' : World} {base : Nat} {v : Value} {l : List ByteArray} (h : SL w base v l) (hb : ∀ g, v.ownBlock = some g → w'.heap[g]? = w.heap[g]?) : SL w' base v l := by
  obtain ⟨h1, h2⟩ := h
  refine ⟨h1, ?_⟩
  rcases h2 with h2 | ⟨g, cap, cur, rfl, hg, hh, r⟩
  · exact .inl h2
  · exact .inr ⟨g, cap, cur, rfl, hg, (hb g rfl).trans hh, r⟩
theorem SL.below {w w' : World} {base : Nat} {v : Value} {l : List ByteArray} (h : SL w base v l) (hb : Below w.heap.size w w') : SL w' base v l := by
  obtain ⟨a, c, rfl, _, hlt⟩ := h.shape
  exact h.same (fun g hg => hb.block g (hlt g hg).2)

theorem step_row (l : List ByteArray) (k : Nat) (j : Nat) (s : ByteArray) (hs : s = l.getD k ByteArray.empty) : (if j = k then Value.string s else if j < k then .string (l.getD j ByteArray.empty) else .string ⟨#[]⟩) = if j < k + 1 then .string (l.getD j ByteArray.empty) else .string ⟨#[]⟩ := by
  subst hs
  by_cases h : j = k
  · subst h; simp
  · by_cases h' : j < k
    · rw [if_neg h, if_pos h', if_pos (by omega)]
    · rw [if_neg h, if_neg h', if_neg (by omega)]

theorem sl_of_row {w : World} {g : Nat} {l : List ByteArray} (hr : w.rowIs g 9 l.length (fun j => if j < l.length then .string (l.getD j ByteArray.empty) else .string ⟨#[]⟩)) (hm : l.length ≤ maxLen) : SL w g (.slice (some ⟨g, 0, none⟩) l.length l.length) l := by
  obtain ⟨c, hb, hn, hc⟩ := hr
  refine ⟨by simp, .inr ⟨g, l.length, c, rfl, Nat.le_refl _, hb, Nat.le_refl _, hm, by omega, ?_⟩⟩
  apply List.ext_getElem?
  intro i
  by_cases hi : i < l.length
  · rw [List.getElem?_take_of_lt (by omega)]
    have h : c[i]? = some (.string (l.getD i ByteArray.empty)) := (hc i hi).trans (by show some (if i < l.length then _ else _) = _; rw [if_pos hi])
    simp [hi, List.getD] at h ⊢
    exact h
  · rw [List.getElem?_eq_none (by simp; omega), List.getElem?_eq_none (by simp; omega)]

/-- What cloneStrings hands back. -/
def CloneTo (w : World) (l : List ByteArray) (e : Ending) (w' : World) : Prop :=
  ∃ a', e = .returned (.slice a' l.length l.length) ∧ SL w' w.heap.size (.slice a' l.length l.length) l ∧ Below w.heap.size w w'

set_option maxHeartbeats 400000 in
theorem clone_any (a : Option Addr) (n cap : Nat) (l : List ByteArray) (w : World) (hz : SR w a n l) (hlen : n ≤ 1048576) :
    Calls Try.prog 8 #[.slice a n cap] w (CloneTo w l) := by
  have q24 : ∀ (w : World) (a : Option Addr) (n c n' c' : Nat), (binOp .eql 24 (.slice a n c) (.slice none n' c')).run Try.prog w = .ok (.bool a.isNone) w := fun w a n c n' c' => Lib.run_eql_slice_nil w _ _ a n c n' c' Try.underlying24
  have hmk := run_make_row' (P := Try.prog) 24 9 (.string ⟨#[]⟩) 16 Try.underlying24 info9 rfl .i64 .i64 n (by omega) (by omega)
  obtain ⟨hl, h0, h1⟩ := hz
  cases a with
  | none =>
    obtain rfl := h0 rfl
    obtain rfl : l = [] := List.eq_nil_of_length_eq_zero hl
    clear h0 h1
    go_enter Try.func8, Try.ntmps8
    go_wp2
    go_ret
    exact ⟨none, rfl, ⟨by simp, .inl ⟨rfl, rfl⟩⟩, Below.refl _ _⟩
  | some x =>
    by_cases hp : 0 < n
    · obtain ⟨b, off, e, hb, hc'⟩ := h1 hp
      cases e
      clear h0 h1
      have HL : Hid (l.length = n) := hl
      clear hl
      go_enter Try.func8, Try.ntmps8
      go_wp2
      go_loopw [4] (fun i wr => ∃ k : Nat, k ≤ n ∧ i = .int .i64 k ∧ wr.rowIs w.heap.size 9 n (fun j => if j < k then .string (l.getD j ByteArray.empty) else .string ⟨#[]⟩) ∧ Below w.heap.size w wr) (fun i _ => n - (intOf i).toNat)
      case atStart => exact ⟨0, Nat.zero_le _, rfl, (World.rowIs_made w (.string ⟨#[]⟩) n 9).congr (fun i _ => by simp), (Below.refl _ _).alloc (Nat.le_refl _) _⟩
      case round =>
        obtain ⟨k, hk, rfl, hr, hnx⟩ := hrel
        by_cases hlt : k < n
        · obtain ⟨s, hs⟩ : ∃ s, s = l.getD k ByteArray.empty := ⟨_, rfl⟩
          have c1 : wr.cell? ⟨b, off + k, none⟩ = some (.string s) := by rw [hs]; exact (hnx.cell hb).trans (hc' k (by omega))
          have HS : Hid (s = l.getD k ByteArray.empty) := hs
          have c2 := hr.cell hlt
          have f2 := hr.frozen k
          simp only [Nat.lt_irrefl, if_false] at c2
          clear hc' hs
          go_wp2
          go_roundw
          case rel => exact ⟨k + 1, by omega, by go_num, (hr.set k _).congr (fun j _ => step_row l k j s HS.out), hnx.setCell (Nat.le_refl _) _⟩
          case measure => simp [intOf]; omega
        · obtain rfl : k = n := by omega
          clear hc'
          go_wp2
          go_ret
          have e := HL.out
          subst e
          exact ⟨_, rfl, sl_of_row hr (by unfold maxLen; omega), hnx⟩
    · obtain rfl : n = 0 := by omega
      obtain rfl : l = [] := List.eq_nil_of_length_eq_zero hl
      have hmk0 : ∀ w, (Instr.makeSlice 24 (.int .i64 0) (.int .i64 0)).run Try.prog w = .ok (.slice (some ⟨w.heap.size, 0, none⟩) 0 0) (w.alloc (.cells (madeCells #[.string ⟨#[]⟩] 0) 9)) := hmk
      clear h0 h1 hmk
      go_enter Try.func8, Try.ntmps8
      go_wp2
      go_loop [4] (fun i => i = .int .i64 0) (fun _ => 0)
      case atStart => rfl
      case round =>
        subst hrel
        go_wp2
        go_ret
        refine ⟨_, rfl, sl_of_row (l := []) ?_ (by unfold maxLen; simp), (Below.refl _ _).alloc (Nat.le_refl _) _⟩
        exact (World.rowIs_made w (.string ⟨#[]⟩) 0 9).congr (fun i hi => by omega)

/-! ### Comparing strings -/
theorem toList_inj {a b : ByteArray} (h : a.toList = b.toList) : a = b := by
  rw [ByteArray.toList_eq, ByteArray.toList_eq] at h
  exact Go.WideShapes.bytes_inj h

/-- What indexOf answers: a place of s in l, or -1. -/
def IxOut (l : List ByteArray) (s : ByteArray) (w : World) (e : Ending) (w' : World) : Prop :=
  w' = w ∧ ((e = .returned (.int .i64 (-1)) ∧ s ∉ l) ∨ ∃ k : Nat, e = .returned (.int .i64 k) ∧ k < l.length ∧ l.getD k ByteArray.empty = s)

theorem not_mem_of {l : List ByteArray} {s : ByteArray} (h : ∀ j, j < l.length → l.getD j ByteArray.empty ≠ s) : s ∉ l := by
  intro hm
  obtain ⟨j, hj, e⟩ := List.getElem_of_mem hm
  exact h j hj (by simp [List.getD, hj, e])

set_option maxHeartbeats 400000 in
theorem indexOf_any (a : Option Addr) (n cap : Nat) (l : List ByteArray) (s : ByteArray) (w : World) (hz : SR w a n l) (hlen : n ≤ 1048576) :
    Calls Try.prog 10 #[.slice a n cap, .string s] w (IxOut l s w) := by
  obtain ⟨hl, h0, h1⟩ := hz
  by_cases hp : 0 < n
  · obtain ⟨b, off, rfl, hb, hc'⟩ := h1 hp
    clear h0 h1
    have HL : Hid (l.length = n) := hl
    clear hl
    go_enter Try.func10, Try.ntmps10
    go_wp2
    go_loop [5] (fun i => ∃ k : Nat, k ≤ n ∧ i = .int .i64 k ∧ Hid (∀ j, j < k → l.getD j ByteArray.empty ≠ s)) (fun i => n - (intOf i).toNat)
    case atStart => exact ⟨0, Nat.zero_le _, rfl, fun j hj => by omega⟩
    case round =>
      obtain ⟨k, hk, rfl, HA⟩ := hrel
      by_cases hlt : k < n
      · obtain ⟨u, hu⟩ : ∃ u, u = l.getD k ByteArray.empty := ⟨_, rfl⟩
        have c1 : w.cell? ⟨b, off + k, none⟩ = some (.string u) := by rw [hu]; exact hc' k (by omega)
        have HU : Hid (u = l.getD k ByteArray.empty) := hu
        clear hc' hu
        by_cases e : u = s
        · subst e
          go_wp2
          go_ret
          exact ⟨rfl, .inr ⟨k, rfl, by rw [HL.out]; exact hlt, HU.out.symm⟩⟩
        · have g1 : ¬ u.toList = s.toList := fun h => e (toList_inj h)
          have g2 : (u.toList == s.toList) = false := by simpa using g1
          have HE : Hid (¬ u = s) := e
          clear e
          go_wp2
          go_round
          case rel =>
            refine ⟨k + 1, by omega, by go_num, fun j hj => ?_⟩
            by_cases h : j = k
            · subst h; rw [← HU.out]; exact HE.out
            · exact HA.out j (by omega)
          case measure => simp [intOf]; omega
      · obtain rfl : k = n := by omega
        clear hc'
        go_wp2
        go_ret
        exact ⟨rfl, .inl ⟨rfl, not_mem_of (by rw [HL.out]; exact HA.out)⟩⟩
  · obtain rfl : n = 0 := by omega
    obtain rfl : l = [] := List.eq_nil_of_length_eq_zero hl
    clear h0 h1
    go_enter Try.func10, Try.ntmps10
    go_wp2
    go_loop [5] (fun i => i = .int .i64 0) (fun _ => 0)
    case atStart => rfl
    case round =>
      subst hrel
      go_wp2
      go_ret
      exact ⟨rfl, .inl ⟨rfl, by simp⟩⟩

/-- All but s. -/
def wo (l : List ByteArray) (s : ByteArray) : List ByteArray := l.filter (fun x => decide (x ≠ s))
theorem wo_take {l : List ByteArray} {s : ByteArray} {k : Nat} (hk : k < l.length) : wo (l.take (k + 1)) s = if l.getD k ByteArray.empty = s then wo (l.take k) s else wo (l.take k) s ++ [l.getD k ByteArray.empty] := by
  unfold wo
  rw [List.take_succ_eq_append_getElem hk, List.filter_append]
  have e : l.getD k ByteArray.empty = l[k] := by simp [List.getD, hk]
  rw [e]
  by_cases h : l[k] = s <;> simp [h]
theorem wo_le (l : List ByteArray) (s : ByteArray) (k : Nat) : (wo (l.take k) s).length ≤ k := by
  unfold wo
  exact Nat.le_trans (List.length_filter_le _ _) (List.length_take_le _ _)

/-- What without hands back. -/
def WoOut (w : World) (l : List ByteArray) (s : ByteArray) (e : Ending) (w' : World) : Prop :=
  ∃ v, e = .returned v ∧ SL w' w.heap.size v (wo l s) ∧ Below w.heap.size w w'

set_option maxHeartbeats 1000000 in
theorem without_any (a : Option Addr) (n cap : Nat) (l : List ByteArray) (s : ByteArray) (w : World) (hz : SR w a n l) (hlen : n ≤ 1048576) :
    Calls Try.prog 14 #[.slice a n cap, .string s] w (WoOut w l s) := by
  obtain ⟨hl, h0, h1⟩ := hz
  obtain ⟨i0, hi, hz0, hz1, hz2⟩ := info_parts info9
  by_cases hp : 0 < n
  · obtain ⟨b, off, rfl, hb, hc'⟩ := h1 hp
    clear h0 h1
    have HL : Hid (l.length = n) := hl
    clear hl
    go_enter Try.func14, Try.ntmps14
    go_wp2
    go_loopw [5, 6] (fun v i wr => ∃ k : Nat, k ≤ n ∧ i = .int .i64 k ∧ SL wr w.heap.size v (wo (l.take k) s) ∧ Below w.heap.size w wr) (fun _ i _ => n - (intOf i).toNat)
    case atStart => exact ⟨0, Nat.zero_le _, rfl, ⟨by simp [wo], .inl ⟨rfl, by simp [wo]⟩⟩, Below.refl _ _⟩
    case round =>
      obtain ⟨k, hk, rfl, hsl, hnx⟩ := hrel
      by_cases hlt : k < n
      · obtain ⟨u, hu⟩ : ∃ u, u = l.getD k ByteArray.empty := ⟨_, rfl⟩
        have c1 : wr.cell? ⟨b, off + k, none⟩ = some (.string u) := by rw [hu]; exact (hnx.cell hb).trans (hc' k (by omega))
        have HU : Hid (u = l.getD k ByteArray.empty) := hu
        have HT := wo_take (l := l) (s := s) (k := k) (by rw [HL.out]; exact hlt)
        have HLe := wo_le l s k
        rw [← hu] at HT
        clear hc' hu
        by_cases e : u = s
        · rw [if_pos e] at HT
          have HT' : Hid (wo (l.take (k + 1)) s = wo (l.take k) s) := HT
          clear HT
          subst e
          go_wp2
          go_roundw
          case rel => exact ⟨k + 1, by omega, by go_num, by rw [HT'.out]; exact hsl, hnx⟩
          case measure => simp [intOf]; omega
        · rw [if_neg e] at HT
          have HT' : Hid (wo (l.take (k + 1)) s = wo (l.take k) s ++ [u]) := HT
          clear HT
          have g1 : ¬ u.toList = s.toList := fun h => e (toList_inj h)
          have g2 : (u.toList == s.toList) = false := by simpa using g1
          clear e
          have hown : wr.ownsRow w.heap.size 9 1 _ (wo (l.take k) s).length ((wo (l.take k) s).map Value.string) := hsl
          have hsz := hnx.size
          have HBK : Hid (∀ g, Value.ownBlock _ = some g → w.heap.size ≤ g ∧ g < wr.heap.size) := hsl.blk
          clear hsl
          go_wp2_with (at_builtin; refine wpList_append_own _ rfl _ _ 24 rfl w.heap.size 9 i0 (.string ⟨#[]⟩) 1 16 Try.underlying24 hi hz0 hz1 hz2 rfl (by decide) _ _ _ rfl (hown.alloc _) ⟨wr.heap.size, 0, none⟩ 1 1 [.string u] rfl rfl (cell_one_new _ _ _) (by simp [Value.oneCell']) (by unfold maxLen; omega) (by omega) (by simp; omega) ?_)
          intro v' w1 hown' hgrow _
          have hnx1 := (hnx.alloc hsz (.cells #[.string u] 9)).grown hgrow (by simp; omega) (fun j hj => (HBK.out j hj).1)
          have hsl1 : SL w1 w.heap.size v' (wo (l.take k) s ++ [u]) := by unfold SL; simpa using hown'
          clear hown' hgrow hown
          go_wp2
          go_roundw
          case rel => exact ⟨k + 1, by omega, by go_num, by rw [HT'.out]; exact hsl1, hnx1⟩
          case measure => simp [intOf]; omega
      · obtain rfl : k = n := by omega
        clear hc'
        go_wp2
        go_ret
        rw [List.take_of_length_le (Nat.le_of_eq HL.out)] at hsl
        exact ⟨_, rfl, hsl, hnx⟩
  · obtain rfl : n = 0 := by omega
    obtain rfl : l = [] := List.eq_nil_of_length_eq_zero hl
    clear h0 h1
    go_enter Try.func14, Try.ntmps14
    go_wp2
    go_loop [5, 6] (fun v i => v = .slice none 0 0 ∧ i = .int .i64 0) (fun _ _ => 0)
    case atStart => exact ⟨rfl, rfl⟩
    case round =>
      obtain ⟨rfl, rfl⟩ := hrel
      go_wp2
      go_ret
      exact ⟨_, rfl, ⟨by simp [wo], .inl ⟨rfl, by simp [wo]⟩⟩, Below.refl _ _⟩

/-! ### What counts bytes: its answer is of no matter -/
/-- Some number comes back; nothing turns. -/
def IntOut (w : World) (e : Ending) (w' : World) : Prop := w' = w ∧ ∃ r : Int, e = .returned (.int .i64 r)
def IntSlot (n : Nat) (t i : Value) : Prop := ∃ (k : Nat) (r : Int), k ≤ n ∧ i = .int .i64 k ∧ t = .int .i64 r

set_option maxHeartbeats 400000 in
theorem stringBytes_any (a : Option Addr) (n cap : Nat) (l : List ByteArray) (w : World) (hz : SR w a n l) :
    Calls Try.prog 6 #[.slice a n cap] w (IntOut w) := by
  obtain ⟨hl, h0, h1⟩ := hz
  by_cases hbig : 65536 < n
  · go_enter Try.func6, Try.ntmps6
    go_wp2
    go_ret
    exact ⟨rfl, _, rfl⟩
  by_cases hp : 0 < n
  · obtain ⟨b, off, rfl, hb, hc'⟩ := h1 hp
    clear h0 h1 hl
    go_enter Try.func6, Try.ntmps6
    go_wp2
    go_loop [3, 4] (IntSlot n) (fun _ i => n - (intOf i).toNat)
    case atStart => exact ⟨0, _, Nat.zero_le _, rfl, rfl⟩
    case round =>
      obtain ⟨k, r, hk, rfl, rfl⟩ := hrel
      by_cases hlt : k < n
      · obtain ⟨u, hu⟩ : ∃ u, u = l.getD k ByteArray.empty := ⟨_, rfl⟩
        have c1 : w.cell? ⟨b, off + k, none⟩ = some (.string u) := by rw [hu]; exact hc' k (by omega)
        clear hc' hu
        go_wp2
        · go_ret
          exact ⟨rfl, _, rfl⟩
        · go_ret
          exact ⟨rfl, _, rfl⟩
        · go_round
          case rel => exact ⟨k + 1, _, by omega, by go_num, rfl⟩
          case measure => simp [intOf]; omega
      · clear hc'
        go_wp2
        go_ret
        exact ⟨rfl, _, rfl⟩
  · obtain rfl : n = 0 := by omega
    clear h0 h1
    go_enter Try.func6, Try.ntmps6
    go_wp2
    go_loop [3, 4] (IntSlot 0) (fun _ _ => 0)
    case atStart => exact ⟨0, _, Nat.le_refl _, rfl, rfl⟩
    case round =>
      obtain ⟨k, r, hk, rfl, rfl⟩ := hrel
      obtain rfl : k = 0 := by omega
      go_wp2
      go_ret
      exact ⟨rfl, _, rfl⟩
end Go.Proofs.Qxb6002789a.Tok
