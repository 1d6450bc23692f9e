import Derived.Test.Qxb6002789aState
namespace Go.Proofs.Qxb6002789a.Tok
open Go.RowKit Go.Deep Go.ChangeShapes Lk

/-! ### Looking a resource up -/
theorem look_hit {w : World} {M : Nat} {bs : List Nat} {nm : Nat → ByteArray} (h : MapIs w (.map (some M)) bs nm) {x : Nat} (hx : x ∈ bs) (hs : (nm x).size ≤ maxLen) :
    (Instr.lookup 42 (.map (some M)) (.string (nm x)) true).run Try.prog w = .ok (.tuple #[.pointer (some ⟨x, 0, none⟩), .bool true]) w := by
  rcases h with ⟨h, _⟩ | ⟨M', n, D, h, ho, _, h1, _⟩
  · cases h
  · simp at h
    subst h
    obtain ⟨v, ps, hrun, hv⟩ := ho.look_ok law Try.underlying42 (zeroE w) ptrElem_nil (Go.WideMaps.keyOf_string_mk Try.underlying9 hs)
    have := h1 x hx
    unfold key at this
    rw [this.2] at hv
    rw [this.1, ptrElem_inv hv] at hrun
    exact hrun
theorem look_miss {w : World} {mv : Value} {bs : List Nat} {nm : Nat → ByteArray} (h : MapIs w mv bs nm) {r : ByteArray} (hx : ∀ x ∈ bs, nm x ≠ r) (hs : r.size ≤ maxLen) :
    (Instr.lookup 42 mv (.string r) true).run Try.prog w = .ok (.tuple #[.pointer none, .bool false]) w := by
  rcases h with ⟨rfl, _⟩ | ⟨M', n, D, rfl, ho, _, _, h2⟩
  · have := Maps.look_nil (w := w) true law Try.underlying42 (zeroE w) (Go.WideMaps.keyOf_string_mk Try.underlying9 hs)
    simpa using this
  · obtain ⟨v, ps, hrun, hv⟩ := ho.look_ok law Try.underlying42 (zeroE w) ptrElem_nil (Go.WideMaps.keyOf_string_mk Try.underlying9 hs)
    have h3 := h2 r hx
    unfold key at h3
    rw [Maps.atKey_of_not_has h3] at hv
    rw [h3, ptrElem_inv_nil hv] at hrun
    exact hrun

theorem map_shape {w : World} {mv : Value} {bs : List Nat} {nm : Nat → ByteArray} (h : MapIs w mv bs nm) {x : Nat} (hx : x ∈ bs) : ∃ M, mv = .map (some M) := by
  rcases h with ⟨_, rfl⟩ | ⟨M', n, D, rfl, _⟩
  · cases hx
  · exact ⟨_, rfl⟩

set_option maxHeartbeats 1000000 in
/-- hold of a resource that is held: its entry. -/
theorem hold_held (base T : Nat) (fg : Int) (bs : List Nat) (nm : Nat → ByteArray) (fl : List Nat) (x : Nat) (w : World) (h : St base w T fg bs nm fl) (hx : x ∈ bs) (hf : x ∉ fl) :
    Calls Try.prog 20 #[.pointer (some ⟨T, 0, none⟩), .string (nm x)] w fun e w' => e = .returned (.pointer (some ⟨x, 0, none⟩)) ∧ w' = w := by
  obtain ⟨mv, hT, hM, _⟩ := h.tok
  obtain ⟨M, rfl⟩ := map_shape hM hx
  have hrun := look_hit hM hx (h.short x hx)
  have t0 := hT.cell (i := 0) (v := .map (some M)) rfl
  have e3 : w.cell? ⟨x, 3, none⟩ = some (.bool false) := (h.ents x hx).cell (i := 3) (by simp [ent, hf])
  clear hT hM h hf
  go_enter Try.func20, Try.ntmps20
  go_wp2
  go_ret
  exact ⟨rfl, rfl⟩

set_option maxHeartbeats 1000000 in
/-- hold of a free resource takes it out of the free ones. -/
theorem hold_free (base T : Nat) (fg : Int) (bs : List Nat) (nm : Nat → ByteArray) (fl : List Nat) (x : Nat) (w : World) (h : St base w T fg bs nm fl) (hx : x ∈ fl) :
    Calls Try.prog 20 #[.pointer (some ⟨T, 0, none⟩), .string (nm x)] w fun e w' => e = .returned (.pointer (some ⟨x, 0, none⟩)) ∧ St base w' T fg bs nm (del fl x) ∧ Kp base w w' := by
  obtain ⟨mv, hT, hM, _⟩ := h.tok
  have hxb := h.sub x hx
  obtain ⟨M, rfl⟩ := map_shape hM hxb
  have hrun := look_hit hM hxb (h.short x hxb)
  have t0 := hT.cell (i := 0) (v := .map (some M)) rfl
  have e3 : w.cell? ⟨x, 3, none⟩ = some (.bool true) := (h.ents x hxb).cell (i := 3) (by simp [ent, hx])
  clear hT hM
  go_enter Try.func20, Try.ntmps20
  go_wp2_with fail
  refine (unlink_st base T fg bs nm fl x _ h hx).mono ?_
  rintro e w1 ⟨rfl, hs, hk⟩
  go_wp2_with fail
  go_ret
  exact ⟨rfl, hs, hk⟩

set_option maxHeartbeats 1000000 in
/-- free of an unknown resource, of one that is free: nothing turns. -/
theorem free_unknown (base T : Nat) (fg : Int) (bs : List Nat) (nm : Nat → ByteArray) (fl : List Nat) (r : ByteArray) (hr : r.size ≤ maxLen) (w : World) (h : St base w T fg bs nm fl) (hx : ∀ x ∈ bs, nm x ≠ r) :
    Calls Try.prog 19 #[.pointer (some ⟨T, 0, none⟩), .string r] w fun e w' => e = .returned (.tuple #[]) ∧ w' = w := by
  obtain ⟨mv, hT, hM, _⟩ := h.tok
  have hrun := look_miss hM hx hr
  rcases hM with ⟨rfl, _⟩ | ⟨M', n, D, rfl, _⟩
  · have t0 := hT.cell (i := 0) (v := .map none) rfl
    clear hT h hx
    go_enter Try.func19, Try.ntmps19
    go_wp2
    refine bodyPost_ret (results_none rfl _ _ _) rfl ?_
    exact ⟨rfl, rfl⟩
  · have t0 := hT.cell (i := 0) (v := .map (some M')) rfl
    clear hT h hx
    go_enter Try.func19, Try.ntmps19
    go_wp2
    refine bodyPost_ret (results_none rfl _ _ _) rfl ?_
    exact ⟨rfl, rfl⟩

set_option maxHeartbeats 1000000 in
theorem free_free (base T : Nat) (fg : Int) (bs : List Nat) (nm : Nat → ByteArray) (fl : List Nat) (x : Nat) (w : World) (h : St base w T fg bs nm fl) (hx : x ∈ fl) :
    Calls Try.prog 19 #[.pointer (some ⟨T, 0, none⟩), .string (nm x)] w fun e w' => e = .returned (.tuple #[]) ∧ w' = w := by
  obtain ⟨mv, hT, hM, _⟩ := h.tok
  have hxb := h.sub x hx
  obtain ⟨M, rfl⟩ := map_shape hM hxb
  have hrun := look_hit hM hxb (h.short x hxb)
  have t0 := hT.cell (i := 0) (v := .map (some M)) rfl
  have e3 : w.cell? ⟨x, 3, none⟩ = some (.bool true) := (h.ents x hxb).cell (i := 3) (by simp [ent, hx])
  clear hT hM h hx
  go_enter Try.func19, Try.ntmps19
  go_wp2
  refine bodyPost_ret (results_none rfl _ _ _) rfl ?_
  exact ⟨rfl, rfl⟩
end Go.Proofs.Qxb6002789a.Tok
