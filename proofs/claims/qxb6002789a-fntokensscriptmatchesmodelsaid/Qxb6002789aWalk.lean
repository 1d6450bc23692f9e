import Derived.Test.Qxb6002789aNew
namespace Go.Proofs.Qxb6002789a.Tok
open Go.RowKit Go.Deep Go.ChangeShapes Lk

/-! ### The getters -/
theorem get_resource (x : Nat) (nm : ByteArray) (w : World) (h : w.cell? ⟨x, 0, none⟩ = some (.string nm)) :
    Calls Try.prog 21 #[.pointer (some ⟨x, 0, none⟩)] w fun e w' => e = .returned (.string nm) ∧ w = w' := by
  go_enter Try.func21, Try.ntmps21
  go_wp2
  go_ret
  exact ⟨rfl, rfl⟩
theorem get_last (x : Nat) (v : Int) (w : World) (h : w.cell? ⟨x, 1, none⟩ = some (.int .u64 v)) :
    Calls Try.prog 22 #[.pointer (some ⟨x, 0, none⟩)] w fun e w' => e = .returned (.int .u64 v) ∧ w = w' := by
  go_enter Try.func22, Try.ntmps22
  go_wp2
  go_ret
  exact ⟨rfl, rfl⟩
theorem get_version (x : Nat) (v : Int) (w : World) (h : w.cell? ⟨x, 2, none⟩ = some (.int .u64 v)) :
    Calls Try.prog 23 #[.pointer (some ⟨x, 0, none⟩)] w fun e w' => e = .returned (.int .u64 v) ∧ w = w' := by
  go_enter Try.func23, Try.ntmps23
  go_wp2
  go_ret
  exact ⟨rfl, rfl⟩
theorem get_isFree (x : Nat) (v : Bool) (w : World) (h : w.cell? ⟨x, 3, none⟩ = some (.bool v)) :
    Calls Try.prog 18 #[.pointer (some ⟨x, 0, none⟩)] w fun e w' => e = .returned (.bool v) ∧ w = w' := by
  go_enter Try.func18, Try.ntmps18
  go_wp2
  go_ret
  exact ⟨rfl, rfl⟩
theorem get_older (x : Nat) (v : Option Addr) (w : World) (h : w.cell? ⟨x, 4, none⟩ = some (.pointer v)) :
    Calls Try.prog 24 #[.pointer (some ⟨x, 0, none⟩)] w fun e w' => e = .returned (.pointer v) ∧ w = w' := by
  go_enter Try.func24, Try.ntmps24
  go_wp2
  go_ret
  exact ⟨rfl, rfl⟩
theorem get_newer (x : Nat) (v : Option Addr) (w : World) (h : w.cell? ⟨x, 5, none⟩ = some (.pointer v)) :
    Calls Try.prog 25 #[.pointer (some ⟨x, 0, none⟩)] w fun e w' => e = .returned (.pointer v) ∧ w = w' := by
  go_enter Try.func25, Try.ntmps25
  go_wp2
  go_ret
  exact ⟨rfl, rfl⟩
theorem get_frees (x : Nat) (v : Int) (w : World) (h : w.cell? ⟨x, 3, none⟩ = some (.int .i64 v)) :
    Calls Try.prog 26 #[.pointer (some ⟨x, 0, none⟩)] w fun e w' => e = .returned (.int .i64 v) ∧ w = w' := by
  go_enter Try.func26, Try.ntmps26
  go_wp2
  go_ret
  exact ⟨rfl, rfl⟩
theorem get_oldest (x : Nat) (v : Option Addr) (w : World) (h : w.cell? ⟨x, 1, none⟩ = some (.pointer v)) :
    Calls Try.prog 27 #[.pointer (some ⟨x, 0, none⟩)] w fun e w' => e = .returned (.pointer v) ∧ w = w' := by
  go_enter Try.func27, Try.ntmps27
  go_wp2
  go_ret
  exact ⟨rfl, rfl⟩
theorem get_newest (x : Nat) (v : Option Addr) (w : World) (h : w.cell? ⟨x, 2, none⟩ = some (.pointer v)) :
    Calls Try.prog 28 #[.pointer (some ⟨x, 0, none⟩)] w fun e w' => e = .returned (.pointer v) ∧ w = w' := by
  go_enter Try.func28, Try.ntmps28
  go_wp2
  go_ret
  exact ⟨rfl, rfl⟩

set_option maxHeartbeats 1000000 in
theorem heldEntry_any (x : Nat) (r : ByteArray) (fg : Int) (w : World) (hb : Blk w x (ent r fg false none none) 53) :
    Calls Try.prog 13 #[.pointer (some ⟨x, 0, none⟩), .string r, .int .u64 fg] w fun e w' => e = .returned (.bool true) ∧ w' = w := by
  have c0 := hb.cell (i := 0) (v := .string r) rfl
  have c1 := hb.cell (i := 1) (v := .int .u64 fg) rfl
  have c2 := hb.cell (i := 2) (v := .int .u64 0) rfl
  have c3 := hb.cell (i := 3) (v := .bool false) rfl
  have c4 := hb.cell (i := 4) (v := .pointer none) rfl
  have c5 := hb.cell (i := 5) (v := .pointer none) rfl
  go_enter Try.func13, Try.ntmps13
  go_wp2
  go_ret
  exact ⟨rfl, rfl⟩

/-! ### Places in the list -/
theorem getElem_not_mem_take {fl : List Nat} (hn : fl.Nodup) {k : Nat} (hk : k < fl.length) : fl[k] ∉ fl.take k := by
  intro hm
  obtain ⟨j, hj, e⟩ := List.getElem_of_mem hm
  have hj' : j < k := by simp at hj; omega
  rw [List.getElem_take] at e
  have := (List.pairwise_iff_getElem.1 hn) j k (by omega) hk hj'
  exact this e
theorem nxt_at {fl : List Nat} (hn : fl.Nodup) {k : Nat} (hk : k < fl.length) : nxt fl fl[k] = fl[k + 1]? := by
  have e : fl = fl.take k ++ fl[k] :: fl.drop (k + 1) := by
    rw [List.getElem_cons_drop, List.take_append_drop]
  have h := nxt_split (fl.take k) (fl.drop (k + 1)) fl[k] (getElem_not_mem_take hn hk)
  rw [← e] at h
  rw [h, List.head?_drop]
theorem prv_at {fl : List Nat} (hn : fl.Nodup) {k : Nat} (hk : k < fl.length) : prv fl fl[k] = if k = 0 then none else fl[k - 1]? := by
  by_cases h0 : k = 0
  · subst h0
    rw [if_pos rfl]
    cases fl with
    | nil => simp at hk
    | cons a l =>
      rw [List.nodup_cons] at hn
      have := prv_split [] l a hn.1
      simpa using this
  · rw [if_neg h0]
    have hk1 : k - 1 < fl.length := by omega
    have h := nxt_at hn hk1
    rw [show k - 1 + 1 = k by omega, List.getElem?_eq_getElem hk] at h
    rw [prv_of_nxt hn h, List.getElem?_eq_getElem hk1]

/-- A pointer's address. -/
def adr : Option Nat → Option Addr
  | none => none
  | some b => some ⟨b, 0, none⟩
theorem ptr_adr (o : Option Nat) : ptr o = .pointer (adr o) := by cases o <;> rfl
end Go.Proofs.Qxb6002789a.Tok
