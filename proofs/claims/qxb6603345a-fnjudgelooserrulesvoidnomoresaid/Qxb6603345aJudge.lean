import Derived.Test.Qxb6603345aRows
import Derived.WalkKit
import Derived.WalkSpells
import Derived.WalkLawsBesides
import Derived.Deep.OwnRows
import Derived.Deep.QuietTactic
import Derived.BigQuiet
import Derived.Below
import Derived.WalkSmall
namespace Go.Proofs.Qxb6603345a.Judge
open Go.RowKit Go.Deep

/-- Block b is a row of the cells cs, of type t, none frozen. -/
def Blk (w : World) (b : Nat) (cs : Array Value) (t : TypeId) : Prop := w.heap[b]? = some (.cells cs t (0, 0))

theorem Blk.cell {w : World} {b : Nat} {cs : Array Value} {t : TypeId} (h : Blk w b cs t) {i : Nat} {v : Value} (hv : cs[i]? = some v) : w.cell? ⟨b, i, none⟩ = some v := by
  unfold Blk at h; simp [World.cell?, h, hv]
theorem Blk.free {w : World} {b : Nat} {cs : Array Value} {t : TypeId} (h : Blk w b cs t) (i : Nat) : w.frozen? ⟨b, i, none⟩ = false := by
  unfold Blk at h; simp [World.frozen?, h]
theorem Blk.lt {w : World} {b : Nat} {cs : Array Value} {t : TypeId} (h : Blk w b cs t) : b < w.heap.size := lt_of_block h
theorem Blk.set {w : World} {b : Nat} {cs : Array Value} {t : TypeId} (h : Blk w b cs t) (i : Nat) (u : Value) : Blk (w.setCell ⟨b, i, none⟩ u) b (cs.setIfInBounds i u) t := by
  unfold Blk at *; simp [World.setCell, Array.getElem?_modify, h]
theorem Blk.same {w w' : World} {b : Nat} {cs : Array Value} {t : TypeId} (h : Blk w b cs t) (e : w'.heap[b]? = w.heap[b]?) : Blk w' b cs t := e.trans h
theorem Blk.new (w : World) (cs : Array Value) (t : TypeId) : Blk (w.alloc (.cells cs t)) w.heap.size cs t := blk_alloc_new _ _
theorem Blk.alloc {w : World} {b : Nat} {cs : Array Value} {t : TypeId} (h : Blk w b cs t) (o : Obj) : Blk (w.alloc o) b cs t := h.same (blk_alloc_lt _ _ _ h.lt)
theorem Blk.as {w : World} {b : Nat} {cs cs' : Array Value} {t : TypeId} (h : Blk w b cs t) (e : cs = cs') : Blk w b cs' t := e ▸ h

/-- A store into block b turns no other block. -/
theorem grown_set (w : World) (b i : Nat) (u : Value) : w.grownBy (w.setCell ⟨b, i, none⟩ u) (some b) :=
  ⟨rfl, rfl, rfl, by simp [World.setCell], fun k _ hk => Below.heap_setCell _ _ _ _ (fun e => hk (by rw [e]))⟩
theorem grown_trans {a b c : World} {row : Option Nat} (h : a.grownBy b row) (k : b.grownBy c row) : a.grownBy c row :=
  ⟨k.os.trans h.os, k.tape.trans h.tape, k.output.trans h.output, Nat.le_trans h.size k.size, fun i hi hr => (k.block i (Nat.lt_of_lt_of_le hi h.size) hr).trans (h.block i hi hr)⟩

theorem grown_two {a w : World} {b : Nat} (h : a.grownBy w (some b)) (i j : Nat) (u v : Value) : a.grownBy ((w.setCell ⟨b, i, none⟩ u).setCell ⟨b, j, none⟩ v) (some b) := grown_trans (grown_trans h (grown_set _ _ _ _)) (grown_set _ _ _ _)
theorem grown_three {a w : World} {b : Nat} (h : a.grownBy w (some b)) (i j k : Nat) (u v x : Value) : a.grownBy (((w.setCell ⟨b, i, none⟩ u).setCell ⟨b, j, none⟩ v).setCell ⟨b, k, none⟩ x) (some b) := grown_trans (grown_two h i j u v) (grown_set _ _ _ _)

/-- The six cells of a Ballot. -/
def cs (wr nm : Int) (ca jd : Bool) (st fl : Int) : Array Value := #[.int .i64 wr, .int .i32 nm, .bool ca, .bool jd, .int .u8 st, .int .u8 fl]

/-! ### The rulebook, in plain words -/
def over (wr e : Int) : Bool := decide (e < wr)
def many (nm s : Int) (v : Bool) : Bool := v && decide (s < nm)
def flt (o t : Bool) : Int := match o, t with | false, false => 0 | true, false => 1 | false, true => 2 | true, true => 3
def stn (o t : Bool) : Int := match o, t with | false, false => 1 | _, _ => 2

set_option maxHeartbeats 400000 in
theorem newBallot_any (wr nm : Int) (ca jd : Bool) (st fl : Int) (w : World) :
    Calls Try.prog 19 #[.int .i64 wr, .int .i32 nm, .bool ca, .bool jd, .int .u8 st, .int .u8 fl] w fun e w' => e = .returned (.pointer (some ⟨w.heap.size, 0, none⟩)) ∧ w' = w.alloc (.cells (cs wr nm ca jd st fl) 53) := by
  go_enter Try.func19, Try.ntmps19
  go_wp2
  go_ret
  exact ⟨rfl, rfl⟩

set_option maxHeartbeats 400000 in
theorem judge_no (b : Nat) (wr nm : Int) (jd : Bool) (st fl e s : Int) (v : Bool) (w : World) (hb : Blk w b (cs wr nm false jd st fl) 53) :
    Calls Try.prog 20 #[.pointer (some ⟨b, 0, none⟩), .int .i64 e, .int .i64 s, .bool v] w fun en w' => en = .returned (.tuple #[]) ∧ w' = w := by
  have c2 := hb.cell (i := 2) (v := .bool false) rfl
  go_enter Try.func20, Try.ntmps20
  go_wp2
  refine bodyPost_ret (results_none rfl _ _ _) rfl ?_
  exact ⟨rfl, rfl⟩

set_option maxHeartbeats 1000000 in
theorem judge_yes (b : Nat) (wr nm : Int) (jd : Bool) (st fl e s : Int) (v : Bool) (w : World) (hn : -2147483648 ≤ nm) (hn' : nm ≤ 2147483647) (hb : Blk w b (cs wr nm true jd st fl) 53) :
    Calls Try.prog 20 #[.pointer (some ⟨b, 0, none⟩), .int .i64 e, .int .i64 s, .bool v] w fun en w' =>
      en = .returned (.tuple #[]) ∧ Blk w' b (cs wr nm true true (stn (over wr e) (many nm s v)) (flt (over wr e) (many nm s v))) 53 ∧ w.grownBy w' (some b) := by
  have c0 := hb.cell (i := 0) (v := .int .i64 wr) rfl
  have c1 := hb.cell (i := 1) (v := .int .i32 nm) rfl
  have c2 := hb.cell (i := 2) (v := .bool true) rfl
  have c3 := hb.cell (i := 3) (v := .bool jd) rfl
  have c4 := hb.cell (i := 4) (v := .int .u8 st) rfl
  have c5 := hb.cell (i := 5) (v := .int .u8 fl) rfl
  have f3 := hb.free 3
  have f4 := hb.free 4
  have f5 := hb.free 5
  have hb3 := ((hb.set 3 (.bool true)).set 4 (.int .u8 1)).set 5 (.int .u8 0)
  have g3 : w.grownBy (((w.setCell ⟨b, 3, none⟩ (.bool true)).setCell ⟨b, 4, none⟩ (.int .u8 1)).setCell ⟨b, 5, none⟩ (.int .u8 0)) (some b) := grown_trans (grown_trans (grown_set _ _ _ _) (grown_set _ _ _ _)) (grown_set _ _ _ _)
  have k5 : ∀ X, ((((w.setCell ⟨b, 3, none⟩ (.bool true)).setCell ⟨b, 4, none⟩ (.int .u8 1)).setCell ⟨b, 5, none⟩ (.int .u8 0)).setCell ⟨b, 5, none⟩ X).cell? ⟨b, 5, none⟩ = some X := fun X => (hb3.set 5 X).cell rfl
  have k5' : ∀ X Y, (((((w.setCell ⟨b, 3, none⟩ (.bool true)).setCell ⟨b, 4, none⟩ (.int .u8 1)).setCell ⟨b, 5, none⟩ (.int .u8 0)).setCell ⟨b, 5, none⟩ X).setCell ⟨b, 5, none⟩ Y).cell? ⟨b, 5, none⟩ = some Y := fun X Y => ((hb3.set 5 X).set 5 Y).cell rfl
  have o1 : bits BinOp.or IntKind.u8 0 1 = 1 := by decide
  have o2 : bits BinOp.or IntKind.u8 0 2 = 2 := by decide
  have o3 : bits BinOp.or IntKind.u8 1 2 = 3 := by decide
  by_cases ho : e < wr <;> by_cases ht : s < nm <;> cases v
  all_goals
    go_enter Try.func20, Try.ntmps20
    go_wp2
    go_end0
    refine ⟨rfl, ?_, ?_⟩
    · first | with_reducible refine Blk.as hb3 ?_ | with_reducible refine Blk.as ((hb3.set 5 _).set 4 _) ?_ | with_reducible refine Blk.as (((hb3.set 5 _).set 5 _).set 4 _) ?_
      first | (simp [cs, over, many, ho, ht, stn, flt]; done) | (simp [cs, over, many, ho, Int.not_lt.2 ht, stn, flt]; done) | (simp [cs, over, many, Int.not_lt.2 ho, ht, stn, flt]; done) | (simp [cs, over, many, Int.not_lt.2 ho, Int.not_lt.2 ht, stn, flt]; done) | (simp [cs, over, many, ho, stn, flt]; done) | (simp [cs, over, many, Int.not_lt.2 ho, stn, flt]; done)
    · first | with_reducible exact g3 | with_reducible exact grown_two g3 _ _ _ _ | with_reducible exact grown_three g3 _ _ _ _ _ _

/-- ZZBallotFields reads the six fields. -/
theorem fields_any (b : Nat) (wr nm : Int) (ca jd : Bool) (st fl : Int) (w : World) (hb : Blk w b (cs wr nm ca jd st fl) 53) :
    Calls Try.prog 24 #[.pointer (some ⟨b, 0, none⟩)] w fun en w' =>
      en = .returned (.tuple #[.int .i64 wr, .int .i32 nm, .bool ca, .bool jd, .int .u8 st, .int .u8 fl]) ∧ ∃ m, w' = w.drewN m := by
  have c0 := hb.cell (i := 0) (v := .int .i64 wr) rfl
  have c1 := hb.cell (i := 1) (v := .int .i32 nm) rfl
  have c2 := hb.cell (i := 2) (v := .bool ca) rfl
  have c3 := hb.cell (i := 3) (v := .bool jd) rfl
  have c4 := hb.cell (i := 4) (v := .int .u8 st) rfl
  have c5 := hb.cell (i := 5) (v := .int .u8 fl) rfl
  go_enter Try.func24, Try.ntmps24
  go_wp2
  go_quiet (fail)
  go_wp2
  refine bodyPost_ret (v := .tuple #[.int .i64 wr, .int .i32 nm, .bool ca, .bool jd, .int .u8 st, .int .u8 fl]) (by simp [results, Try.results24, go_sem]) rfl ?_
  exact ⟨rfl, _, rfl⟩
end Go.Proofs.Qxb6603345a.Judge
