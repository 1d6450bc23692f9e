import Derived.Test.Qxb6002789aMem
import Derived.BigRegion
import Derived.RegionTactic
namespace Go.Proofs.Qxb6002789a.Tok
open Go.RowKit Go.Deep Go.ChangeShapes

/-- A pointer to an entry, or nil. -/
def ptr : Option Nat → Value
  | none => .pointer none
  | some b => .pointer (some ⟨b, 0, none⟩)
/-- An entry's cells. -/
def ent (nm : ByteArray) (fg : Int) (fr : Bool) (o n : Option Nat) : Array Value := #[.string nm, .int .u64 fg, .int .u64 0, .bool fr, ptr o, ptr n]
/-- A Tokens' cells. -/
def tokc (mv : Value) (hd tl : Option Nat) (cnt fg : Int) : Array Value := #[mv, ptr hd, ptr tl, .int .i64 cnt, .int .u64 fg]

/-- Nothing but the blocks of S turns, of what was there. -/
structure Fr (S : Nat → Prop) (w w' : World) : Prop where
  os : w'.os = w.os
  tape : w'.tape = w.tape
  output : w'.output = w.output
  size : w.heap.size ≤ w'.heap.size
  block : ∀ k, k < w.heap.size → ¬ S k → w'.heap[k]? = w.heap[k]?

theorem Fr.refl (S : Nat → Prop) (w : World) : Fr S w w := ⟨rfl, rfl, rfl, Nat.le_refl _, fun _ _ _ => rfl⟩
theorem Fr.trans {S : Nat → Prop} {a b c : World} (h : Fr S a b) (k : Fr S b c) : Fr S a c :=
  ⟨k.os.trans h.os, k.tape.trans h.tape, k.output.trans h.output, Nat.le_trans h.size k.size, fun i hi hs => (k.block i (Nat.lt_of_lt_of_le hi h.size) hs).trans (h.block i hi hs)⟩
theorem Fr.set {S : Nat → Prop} {a w : World} (h : Fr S a w) {b : Nat} (hb : S b) (i : Nat) (u : Value) : Fr S a (w.setCell ⟨b, i, none⟩ u) :=
  h.trans ⟨rfl, rfl, rfl, by simp [World.setCell], fun k _ hk => Below.heap_setCell _ _ _ _ (fun e => hk (by rw [e]; exact hb))⟩
theorem Fr.drew {S : Nat → Prop} {a w : World} (h : Fr S a w) : Fr S a w.drew := ⟨h.os, h.tape, h.output, h.size, h.block⟩

/-- All entries. -/
def Ents (w : World) (bs : List Nat) (f : Nat → Array Value) : Prop := ∀ x ∈ bs, Blk w x (f x) 53
theorem Ents.set {w : World} {bs : List Nat} {f : Nat → Array Value} (h : Ents w bs f) (c i : Nat) (u : Value) : Ents (w.setCell ⟨c, i, none⟩ u) bs (fun x => if x = c then (f c).setIfInBounds i u else f x) := by
  intro x hx
  by_cases e : x = c
  · subst e
    simp only [if_true]
    exact (h x hx).set i u
  · simp only [if_neg e]
    exact (h x hx).setOther e i u
theorem Ents.tok {w : World} {bs : List Nat} {f : Nat → Array Value} (h : Ents w bs f) {T : Nat} (hT : T ∉ bs) (i : Nat) (u : Value) : Ents (w.setCell ⟨T, i, none⟩ u) bs f := by
  intro x hx
  exact (h x hx).setOther (fun e => hT (by rw [← e]; exact hx)) i u
theorem Ents.drew {w : World} {bs : List Nat} {f : Nat → Array Value} (h : Ents w bs f) : Ents w.drew bs f := h
theorem Ents.as {w : World} {bs : List Nat} {f g : Nat → Array Value} (h : Ents w bs f) (e : ∀ x ∈ bs, f x = g x) : Ents w bs g := fun x hx => (h x hx).as (e x hx)

theorem tok_not {w : World} {T : Nat} {cs : Array Value} {bs : List Nat} {f : Nat → Array Value} (hT : Blk w T cs 44) (h : Ents w bs f) : T ∉ bs := by
  intro hm
  have h1 := h T hm
  unfold Blk at hT h1
  rw [hT] at h1
  simp at h1

set_option maxHeartbeats 1000000 in
theorem unlink_nn (T b : Nat) (mv : Value) (hd tl : Option Nat) (cnt fg : Int) (nm : ByteArray) (fr : Bool) (w : World) (hT : Blk w T (tokc mv hd tl cnt fg) 44) (hb : Blk w b (ent nm fg fr none none) 53) (hc : 1 ≤ cnt) (hc' : cnt ≤ 1000000) (hne : T ≠ b) :
    Calls Try.prog 29 #[.pointer (some ⟨T, 0, none⟩), .pointer (some ⟨b, 0, none⟩)] w fun e w' => e = .returned (.tuple #[]) ∧
      w' = (((((w.setCell ⟨T, 1, none⟩ (.pointer none)).setCell ⟨T, 2, none⟩ (.pointer none)).setCell ⟨b, 3, none⟩ (.bool false)).setCell ⟨b, 4, none⟩ (.pointer none)).setCell ⟨b, 5, none⟩ (.pointer none)).setCell ⟨T, 3, none⟩ (.int .i64 (cnt - 1)) := by
  have t1 := hT.cell (i := 1) (v := ptr hd) rfl
  have t2 := hT.cell (i := 2) (v := ptr tl) rfl
  have t3 := hT.cell (i := 3) (v := .int .i64 cnt) rfl
  have e3 := hb.cell (i := 3) (v := .bool fr) rfl
  have e4 := hb.cell (i := 4) (v := .pointer none) rfl
  have e5 := hb.cell (i := 5) (v := .pointer none) rfl
  have ft1 := hT.free 1
  have ft2 := hT.free 2
  have ft3 := hT.free 3
  have fe3 := hb.free 3
  have fe4 := hb.free 4
  have fe5 := hb.free 5
  have hne' : b ≠ T := fun e => hne e.symm
  clear hT hb
  go_enter Try.func29, Try.ntmps29
  go_wp2
  go_end0
  exact ⟨rfl, rfl⟩

set_option maxHeartbeats 1000000 in
theorem unlink_ns (T b q : Nat) (mv : Value) (hd tl : Option Nat) (cnt fg : Int) (nm : ByteArray) (fr : Bool) (w : World) (hT : Blk w T (tokc mv hd tl cnt fg) 44) (hb : Blk w b (ent nm fg fr none (some q)) 53) (hc : 1 ≤ cnt) (hc' : cnt ≤ 1000000) (hne : T ≠ b) (hq : ∃ v, w.cell? ⟨q, 4, none⟩ = some v) (fq : w.frozen? ⟨q, 4, none⟩ = false) (hqT : q ≠ T) (hqb : q ≠ b) :
    Calls Try.prog 29 #[.pointer (some ⟨T, 0, none⟩), .pointer (some ⟨b, 0, none⟩)] w fun e w' => e = .returned (.tuple #[]) ∧
      w' = ((((((w.setCell ⟨T, 1, none⟩ (.pointer (some ⟨q, 0, none⟩))).setCell ⟨q, 4, none⟩ (.pointer none)).setCell ⟨b, 3, none⟩ (.bool false)).setCell ⟨b, 4, none⟩ (.pointer none)).setCell ⟨b, 5, none⟩ (.pointer none)).setCell ⟨T, 3, none⟩ (.int .i64 (cnt - 1))).drew := by
  have t1 := hT.cell (i := 1) (v := ptr hd) rfl
  have t2 := hT.cell (i := 2) (v := ptr tl) rfl
  have t3 := hT.cell (i := 3) (v := .int .i64 cnt) rfl
  have e3 := hb.cell (i := 3) (v := .bool fr) rfl
  have e4 := hb.cell (i := 4) (v := .pointer none) rfl
  have e5 := hb.cell (i := 5) (v := .pointer (some ⟨q, 0, none⟩)) rfl
  have ft1 := hT.free 1
  have ft2 := hT.free 2
  have ft3 := hT.free 3
  have fe3 := hb.free 3
  have fe4 := hb.free 4
  have fe5 := hb.free 5
  have hne' : b ≠ T := fun e => hne e.symm
  obtain ⟨vq, hq⟩ := hq
  have hqb' : b ≠ q := fun e => hqb e.symm
  have hqT' : T ≠ q := fun e => hqT e.symm
  clear hT hb
  go_enter Try.func29, Try.ntmps29
  go_wp2
  go_region
  go_wp2
  go_end0
  exact ⟨rfl, rfl⟩

set_option maxHeartbeats 1000000 in
theorem unlink_sn (T b p : Nat) (mv : Value) (hd tl : Option Nat) (cnt fg : Int) (nm : ByteArray) (fr : Bool) (w : World) (hT : Blk w T (tokc mv hd tl cnt fg) 44) (hb : Blk w b (ent nm fg fr (some p) none) 53) (hc : 1 ≤ cnt) (hc' : cnt ≤ 1000000) (hne : T ≠ b) (hp : ∃ v, w.cell? ⟨p, 5, none⟩ = some v) (fp : w.frozen? ⟨p, 5, none⟩ = false) (hpT : p ≠ T) (hpb : p ≠ b) :
    Calls Try.prog 29 #[.pointer (some ⟨T, 0, none⟩), .pointer (some ⟨b, 0, none⟩)] w fun e w' => e = .returned (.tuple #[]) ∧
      w' = ((((((w.setCell ⟨p, 5, none⟩ (.pointer none)).setCell ⟨T, 2, none⟩ (.pointer (some ⟨p, 0, none⟩))).setCell ⟨b, 3, none⟩ (.bool false)).setCell ⟨b, 4, none⟩ (.pointer none)).setCell ⟨b, 5, none⟩ (.pointer none)).setCell ⟨T, 3, none⟩ (.int .i64 (cnt - 1))).drew := by
  have t1 := hT.cell (i := 1) (v := ptr hd) rfl
  have t2 := hT.cell (i := 2) (v := ptr tl) rfl
  have t3 := hT.cell (i := 3) (v := .int .i64 cnt) rfl
  have e3 := hb.cell (i := 3) (v := .bool fr) rfl
  have e4 := hb.cell (i := 4) (v := .pointer (some ⟨p, 0, none⟩)) rfl
  have e5 := hb.cell (i := 5) (v := .pointer none) rfl
  have ft1 := hT.free 1
  have ft2 := hT.free 2
  have ft3 := hT.free 3
  have fe3 := hb.free 3
  have fe4 := hb.free 4
  have fe5 := hb.free 5
  have hne' : b ≠ T := fun e => hne e.symm
  obtain ⟨vp, hp⟩ := hp
  have hpb' : b ≠ p := fun e => hpb e.symm
  have hpT' : T ≠ p := fun e => hpT e.symm
  clear hT hb
  go_enter Try.func29, Try.ntmps29
  go_wp2
  go_region
  go_wp2
  go_end0
  exact ⟨rfl, rfl⟩

set_option maxHeartbeats 1000000 in
theorem unlink_ss (T b p q : Nat) (mv : Value) (hd tl : Option Nat) (cnt fg : Int) (nm : ByteArray) (fr : Bool) (w : World) (hT : Blk w T (tokc mv hd tl cnt fg) 44) (hb : Blk w b (ent nm fg fr (some p) (some q)) 53) (hc : 1 ≤ cnt) (hc' : cnt ≤ 1000000) (hne : T ≠ b) (hp : ∃ v, w.cell? ⟨p, 5, none⟩ = some v) (fp : w.frozen? ⟨p, 5, none⟩ = false) (hpT : p ≠ T) (hpb : p ≠ b) (hq : ∃ v, w.cell? ⟨q, 4, none⟩ = some v) (fq : w.frozen? ⟨q, 4, none⟩ = false) (hqT : q ≠ T) (hqb : q ≠ b) :
    Calls Try.prog 29 #[.pointer (some ⟨T, 0, none⟩), .pointer (some ⟨b, 0, none⟩)] w fun e w' => e = .returned (.tuple #[]) ∧
      w' = ((((((w.setCell ⟨p, 5, none⟩ (.pointer (some ⟨q, 0, none⟩))).setCell ⟨q, 4, none⟩ (.pointer (some ⟨p, 0, none⟩))).setCell ⟨b, 3, none⟩ (.bool false)).setCell ⟨b, 4, none⟩ (.pointer none)).setCell ⟨b, 5, none⟩ (.pointer none)).setCell ⟨T, 3, none⟩ (.int .i64 (cnt - 1))).drew.drew := by
  have t1 := hT.cell (i := 1) (v := ptr hd) rfl
  have t2 := hT.cell (i := 2) (v := ptr tl) rfl
  have t3 := hT.cell (i := 3) (v := .int .i64 cnt) rfl
  have e3 := hb.cell (i := 3) (v := .bool fr) rfl
  have e4 := hb.cell (i := 4) (v := .pointer (some ⟨p, 0, none⟩)) rfl
  have e5 := hb.cell (i := 5) (v := .pointer (some ⟨q, 0, none⟩)) rfl
  have ft1 := hT.free 1
  have ft2 := hT.free 2
  have ft3 := hT.free 3
  have fe3 := hb.free 3
  have fe4 := hb.free 4
  have fe5 := hb.free 5
  have hne' : b ≠ T := fun e => hne e.symm
  obtain ⟨vp, hp⟩ := hp
  have hpb' : b ≠ p := fun e => hpb e.symm
  have hpT' : T ≠ p := fun e => hpT e.symm
  obtain ⟨vq, hq⟩ := hq
  have hqb' : b ≠ q := fun e => hqb e.symm
  have hqT' : T ≠ q := fun e => hqT e.symm
  clear hT hb
  go_enter Try.func29, Try.ntmps29
  go_wp2
  go_region
  go_wp2
  go_region
  go_wp2
  go_end0
  exact ⟨rfl, rfl⟩

end Go.Proofs.Qxb6002789a.Tok
