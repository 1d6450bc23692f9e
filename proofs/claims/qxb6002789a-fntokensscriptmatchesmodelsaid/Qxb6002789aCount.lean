import Derived.Test.Qxb6002789aMem
namespace Go.Proofs.Qxb6002789a.Tok
open Go.RowKit Go.Deep Go.ChangeShapes

/-- A bool comes back; nothing turns. -/
def BoolOut (w : World) (e : Ending) (w' : World) : Prop := w = w' ∧ ∃ b : Bool, e = .returned (.bool b)

set_option maxHeartbeats 1000000 in
theorem zzBytes4_any (fg : Int) (a1 : Option Addr) (n1 c1 : Nat) (l1 : List ByteArray) (a2 : Option Addr) (n2 c2 : Nat) (l2 : List ByteArray) (r : ByteArray) (w : World) (h1 : SR w a1 n1 l1) (h2 : SR w a2 n2 l2) :
    Calls Try.prog 16 #[.int .u64 fg, .slice a1 n1 c1, .slice a2 n2 c2, .string r] w (BoolOut w) := by
  obtain ⟨_, _, p1⟩ := h1
  obtain ⟨_, _, p2⟩ := h2
  have H1 : Hid (0 < n1 → ∃ b o, a1 = some ⟨b, o, none⟩ ∧ b < w.heap.size ∧ ∀ i, i < n1 → w.cell? ⟨b, o + i, none⟩ = some (.string (l1.getD i ByteArray.empty))) := p1
  have H2 : Hid (0 < n2 → ∃ b o, a2 = some ⟨b, o, none⟩ ∧ b < w.heap.size ∧ ∀ i, i < n2 → w.cell? ⟨b, o + i, none⟩ = some (.string (l2.getD i ByteArray.empty))) := p2
  clear p1 p2
  by_cases hn1 : 1048576 < n1
  · go_enter Try.func16, Try.ntmps16
    go_wp2
    go_ret
    exact ⟨rfl, _, rfl⟩
  go_enter Try.func16, Try.ntmps16
  go_wp2
  go_loop [9, 10] (IntSlot n1) (fun _ i => n1 - (intOf i).toNat)
  case atStart => exact ⟨0, _, Nat.zero_le _, rfl, rfl⟩
  case round =>
    obtain ⟨k, s, hk, rfl, rfl⟩ := hrel
    by_cases hlt : k < n1
    · obtain ⟨b, off, rfl, _, hc⟩ := H1.out (by omega)
      have c1 := hc k hlt
      generalize l1.getD k ByteArray.empty = u at c1
      clear hc H1
      go_wp2
      · go_ret
        exact ⟨rfl, _, rfl⟩
      · go_ret
        exact ⟨rfl, _, rfl⟩
      · go_round
        case rel => exact ⟨k + 1, _, by omega, by go_num, rfl⟩
        case measure => simp [intOf]; omega
    · clear H1
      by_cases hn2 : 1048576 < n2
      · go_wp2
        go_ret
        exact ⟨rfl, _, rfl⟩
      go_wp2
      · go_ret
        exact ⟨rfl, _, rfl⟩
      go_loop [9, 11] (IntSlot n2) (fun _ i => n2 - (intOf i).toNat)
      case atStart => exact ⟨0, _, Nat.zero_le _, rfl, rfl⟩
      case round =>
        obtain ⟨k', s', hk', rfl, rfl⟩ := hrel
        by_cases hlt' : k' < n2
        · obtain ⟨b, off, rfl, _, hc⟩ := H2.out (by omega)
          have c1 := hc k' hlt'
          generalize l2.getD k' ByteArray.empty = u at c1
          clear hc H2
          go_wp2
          · go_ret
            exact ⟨rfl, _, rfl⟩
          · go_ret
            exact ⟨rfl, _, rfl⟩
          · go_round
            case rel => exact ⟨k' + 1, _, by omega, by go_num, rfl⟩
            case measure => simp [intOf]; omega
        · clear H2
          go_wp2
          all_goals
            go_ret
            exact ⟨rfl, _, rfl⟩
end Go.Proofs.Qxb6002789a.Tok
