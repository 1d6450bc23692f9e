import Derived.Test.Qxb6603367aBytes
namespace Go.Proofs.Qxb6603367a.Bytes
open Go.RowKit Go.Deep Go.ChangeShapes

/-- 'string(b)'. -/
theorem run_toStr {w : World} {a : Option Addr} {n c : Nat} {zs : List Int} (h : Row w a n zs) : (convert 22 9 (.slice a n c)).run Try.prog w = .ok (.string (strOfNums zs)) w := by
  obtain ⟨l, _, r⟩ := h
  by_cases hp : 0 < n
  · obtain ⟨b, rfl, _, hc⟩ := r hp
    exact run_convert_bytes_arg w 22 5 Try.underlying22 Try.underlying5 b 0 n c zs l (fun i hi => by simpa using hc i hi) 9 Try.underlying9
  · obtain rfl : n = 0 := by omega
    have : zs = [] := List.eq_nil_of_length_eq_zero l
    subst this
    rw [run_convert_bytes_string w 22 9 5 _ 0 c Try.underlying22 Try.underlying5 Try.underlying9]
    cases a <;> simp [Conv.bytesToString, loadCells]
    all_goals rfl

theorem wpList_toStr (w : World) {ops : Array Oper} {rest : List Oper} {o : Oper} {a : Act} {Q : Exit → Act → World → Prop}
    (hg : o.guard = none) (x : Operand) (hop : o.op = Op.convert 22 9 x) (ad : Option Addr) (n c : Nat) (zs : List Int) (hx : a.eval x = .slice ad n c) (hr : Row w ad n zs)
    (hK : wpList Try.prog ops Q rest (a.put o.dst (.string (strOfNums zs))) w) :
    wpList Try.prog ops Q (o :: rest) a w := by
  refine wpList_plain hg fun K hK' => ?_
  have hrun := run_toStr (c := c) hr
  unfold Oper.wp
  simp [execOp, hop, hx, hrun, Result.andThen]
  exact hK' _ _ hK

/-- '[]byte(s)'. -/
theorem wpList_toBytes (w : World) {ops : Array Oper} {rest : List Oper} {o : Oper} {a : Act} {Q : Exit → Act → World → Prop}
    (hg : o.guard = none) (x : Operand) (hop : o.op = Op.convert 9 22 x) (zs : List Int) (hx : a.eval x = .string (strOfNums zs)) (hz : ∀ z ∈ zs, 0 ≤ z ∧ z ≤ 255)
    (hK : ∀ c w', Below w.heap.size w w' → w'.heap.size = w.heap.size + 1 → Row w' (some ⟨w.heap.size, 0, none⟩) zs.length zs → wpList Try.prog ops Q rest (a.put o.dst (.slice (some ⟨w.heap.size, 0, none⟩) zs.length c)) w') :
    wpList Try.prog ops Q (o :: rest) a w := by
  refine wpList_plain hg fun K hK' => ?_
  have hrun := Lib.run_convert_string_bytes (P := Try.prog) w 9 22 5 (strOfNums zs) Try.underlying9 Try.underlying22 Try.underlying5
  have hsz : (strOfNums zs).size = zs.length := strOfNums_size zs
  rw [hsz] at hrun
  unfold Oper.wp
  simp [execOp, hop, hx, hrun, Result.andThen]
  refine hK' _ _ (hK _ _ ⟨rfl, rfl, rfl, by rw [Lib.bytesWorld_size]; omega, fun k hk => Lib.bytesWorld_at_old _ _ _ _ hk⟩ (Lib.bytesWorld_size _ _ _) ⟨rfl, hz, fun hp => ⟨_, rfl, by rw [Lib.bytesWorld_size]; omega, fun i hi => ?_⟩⟩)
  rw [Lib.bytesWorld_cell _ _ _ _ (by omega), strOfNums_data]
  have hb := hz zs[i] (List.getElem_mem hi)
  simp [List.getD, hi]
  omega

theorem Row.alloc {w : World} {a : Option Addr} {n : Nat} {zs : List Int} (h : Row w a n zs) (o : Obj) : Row (w.alloc o) a n zs := h.below ((Below.refl _ _).alloc (Nat.le_refl _) _)

/-- What a slot keeps of a value: a member's bytes. -/
def inS (m : Bool) (z : List Int) : List Int := if m then z else []

set_option maxHeartbeats 400000 in
theorem slotOf_any (a0 : Option Addr) (n0 c0 : Nat) (z0 : List Int) (a1 : Option Addr) (n1 c1 : Nat) (z1 : List Int) (m : Bool) (w : World) (h0 : Row w a0 n0 z0) (h1 : Row w a1 n1 z1) :
    Calls Try.prog 11 #[.agg #[.slice a0 n0 c0, .slice a1 n1 c1, .bool m]] w fun e w' => e = .returned (.agg #[.string (strOfNums z0), .string (strOfNums (inS m z1)), .bool m]) ∧ Below w.heap.size w w' := by
  cases m
  · go_enter Try.func11, Try.ntmps11
    go_wp2_with (refine wpList_toStr _ rfl _ rfl _ _ _ z0 rfl ((h0.alloc _).alloc _) ?_)
    exact bodyPost_ret (v := .agg #[.string (strOfNums z0), .string (strOfNums []), .bool false]) (by simp [results, Try.results11, go_sem]; rfl) rfl ⟨rfl, ((Below.refl _ _).alloc (Nat.le_refl _) _).alloc (by simp) _⟩
  · go_enter Try.func11, Try.ntmps11
    go_wp2_with (first | refine wpList_toStr _ rfl (.tmp 6) rfl _ _ _ z0 rfl ((h0.alloc _).alloc _) ?_ | refine wpList_toStr _ rfl (.tmp 9) rfl _ _ _ z1 rfl ((h1.alloc _).alloc _) ?_)
    exact bodyPost_ret (v := .agg #[.string (strOfNums z0), .string (strOfNums z1), .bool true]) (by simp [results, Try.results11, go_sem]) rfl ⟨rfl, ((Below.refl _ _).alloc (Nat.le_refl _) _).alloc (by simp) _⟩

set_option maxHeartbeats 400000 in
theorem zzSlotOf_any (a0 : Option Addr) (n0 c0 : Nat) (z0 : List Int) (a1 : Option Addr) (n1 c1 : Nat) (z1 : List Int) (m : Bool) (w : World) (h0 : Row w a0 n0 z0) (h1 : Row w a1 n1 z1) :
    Calls Try.prog 7 #[.slice a0 n0 c0, .slice a1 n1 c1, .bool m] w fun e w' => e = .returned (.tuple #[.string (strOfNums z0), .string (strOfNums (inS m z1)), .bool m]) ∧ Below w.heap.size w w' := by
  go_enter Try.func7, Try.ntmps7
  go_wp2_with fail
  refine (slotOf_any a0 n0 c0 z0 a1 n1 c1 z1 m _ h0 h1).mono ?_
  rintro e w1 ⟨rfl, hb⟩
  go_wp2_with fail
  go_quiet (fail)
  go_wp2
  go_ret3
  exact ⟨rfl, below_drewN (hb.alloc hb.size _) _⟩

theorem bcell {B : Nat} {W w1 : World} (hb : Below B W w1) : (∀ b o, b < B → w1.cell? ⟨b, o, none⟩ = W.cell? ⟨b, o, none⟩) ∧ (∀ b o, b < B → w1.frozen? ⟨b, o, none⟩ = W.frozen? ⟨b, o, none⟩) :=
  ⟨fun b o h => hb.cell (p := ⟨b, o, none⟩) h, fun b o h => hb.frozen (p := ⟨b, o, none⟩) h⟩

/-- The cells of an entry that holds a value and nothing else. -/
def entry (v : Value) : Array Value := #[.int .u8 0, .int .u8 0, .int .u8 0, .int .u8 0, .int .u8 0, .int .u8 0, .int .u8 0, .int .u8 0, .int .u8 0, .int .u8 0, .int .u8 0, .int .u8 0, .int .u8 0, .int .u8 0, .int .u8 0, .int .u8 0, .int .u8 0, .int .u8 0, .int .u8 0, .int .u8 0, v, .int .u64 0, .int .u64 0, .int .i64 0, .pointer none]

theorem Row.set {w : World} {b n : Nat} {zs : List Int} (h : Row w (some ⟨b, 0, none⟩) n zs) (p : Addr) (hp : p.block ≠ b) (u : Value) : Row (w.setCell p u) (some ⟨b, 0, none⟩) n zs := by
  obtain ⟨h1, h2, h3⟩ := h
  refine ⟨h1, h2, fun h0 => ?_⟩
  obtain ⟨b', e, hl, hc⟩ := h3 h0
  simp at e
  subst e
  exact ⟨b, rfl, by simpa [World.setCell] using hl, fun i hi => (World.cell?_setCell_other w p _ u (fun e => hp (by rw [e]))).trans (hc i hi)⟩

set_option maxHeartbeats 400000 in
theorem pair_no (z0 zm : List Int) (a1 : Option Addr) (n1 c1 : Nat) (w : World) (b0 : ∀ z ∈ z0, 0 ≤ z ∧ z ≤ 255) :
    Calls Try.prog 12 #[.agg #[.string (strOfNums z0), .string (strOfNums zm), .bool false], .agg (entry (.slice a1 n1 c1))] w fun e w' =>
      ∃ ak ck, e = .returned (.agg #[.slice ak z0.length ck, .slice a1 n1 c1, .bool false]) ∧ Row w' ak z0.length z0 ∧ Below w.heap.size w w' := by
  unfold entry
  have HB0 : Hid (∀ z ∈ z0, 0 ≤ z ∧ z ≤ 255) := b0
  clear b0
  go_enter Try.func12, Try.ntmps12
  go_wp2_with (refine wpList_toBytes _ rfl _ rfl z0 rfl HB0.out ?_)
  intro c w1 hb hz hr
  obtain ⟨hc, hf⟩ := bcell hb
  go_wp2
  refine bodyPost_ret (v := .agg #[.slice (some ⟨w.heap.size + 1 + 1 + 1, 0, none⟩) z0.length c, .slice a1 n1 c1, .bool false]) (by simp [results, Try.results12, go_sem, hc]) rfl ⟨_, _, rfl, ?_, ?_⟩
  · exact ((hr.set _ (by simp) _).set _ (by simp) _).set _ (by simp) _
  · exact (((((((Below.refl _ _).alloc (Nat.le_refl _) _).alloc (by simp) _).alloc (by simp; omega) _).trans (hb.mono (by omega))).setCell (by simp; omega) _).setCell (by simp; omega) _).setCell (by simp; omega) _

set_option maxHeartbeats 400000 in
theorem pair_yes (z0 zm : List Int) (v : Value) (w : World) (b0 : ∀ z ∈ z0, 0 ≤ z ∧ z ≤ 255) (bm : ∀ z ∈ zm, 0 ≤ z ∧ z ≤ 255) :
    Calls Try.prog 12 #[.agg #[.string (strOfNums z0), .string (strOfNums zm), .bool true], .agg (entry v)] w fun e w' =>
      ∃ ak ck av cv, e = .returned (.agg #[.slice ak z0.length ck, .slice av zm.length cv, .bool true]) ∧ Row w' ak z0.length z0 ∧ Row w' av zm.length zm ∧ Below w.heap.size w w' := by
  unfold entry
  have HB0 : Hid (∀ z ∈ z0, 0 ≤ z ∧ z ≤ 255) := b0
  have HBM : Hid (∀ z ∈ zm, 0 ≤ z ∧ z ≤ 255) := bm
  clear b0 bm
  go_enter Try.func12, Try.ntmps12
  go_wp2_with (refine wpList_toBytes _ rfl (.tmp 8) rfl z0 rfl HB0.out ?_)
  intro c w1 hb hz hr
  obtain ⟨hc, hf⟩ := bcell hb
  go_wp2_with (refine wpList_toBytes _ rfl (.tmp 11) rfl zm rfl HBM.out ?_)
  intro c' w2 hb2 hz2 hr2
  have hr1 := hr.below (hb2.mono (by omega))
  have hb3 := hb.trans (hb2.mono (B' := w.heap.size + 1 + 1 + 1) (by omega))
  clear hc hf hr
  obtain ⟨hc, hf⟩ := bcell hb3
  go_wp2
  refine bodyPost_ret (v := .agg #[.slice (some ⟨w.heap.size + 1 + 1 + 1, 0, none⟩) z0.length c, .slice (some ⟨w.heap.size + 1 + 1 + 1 + 1, 0, none⟩) zm.length c', .bool true]) (by simp [results, Try.results12, go_sem, hc]) rfl ⟨_, _, _, _, rfl, ?_, ?_, ?_⟩
  · exact ((hr1.set _ (by simp) _).set _ (by simp) _).set _ (by simp) _
  · exact ((hr2.set _ (by simp) _).set _ (by simp) _).set _ (by simp) _
  · exact (((((((Below.refl _ _).alloc (Nat.le_refl _) _).alloc (by simp) _).alloc (by simp; omega) _).trans (hb3.mono (by omega))).setCell (by simp; omega) _).setCell (by simp; omega) _).setCell (by simp; omega) _

/-- What slot.pair gives back for a value. -/
def back (m : Bool) (zm z1 : List Int) : List Int := if m then zm else z1

set_option maxHeartbeats 400000 in
theorem zzSlotPair_any (z0 zm : List Int) (m : Bool) (a1 : Option Addr) (n1 c1 : Nat) (z1 : List Int) (w : World) (h1 : Row w a1 n1 z1) (b0 : ∀ z ∈ z0, 0 ≤ z ∧ z ≤ 255) (bm : ∀ z ∈ zm, 0 ≤ z ∧ z ≤ 255) :
    Calls Try.prog 10 #[.string (strOfNums z0), .string (strOfNums zm), .bool m, .slice a1 n1 c1] w fun e w' =>
      ∃ ak ck av cv, e = .returned (.tuple #[.slice ak z0.length ck, .slice av (back m zm z1).length cv, .bool m]) ∧ Row w' ak z0.length z0 ∧ Row w' av (back m zm z1).length (back m zm z1) ∧ Below w.heap.size w w' := by
  have HL : Hid (z1.length = n1) := h1.1
  cases m
  · go_enter Try.func10, Try.ntmps10
    go_wp2_with fail
    refine (pair_no z0 zm a1 n1 c1 _ b0).mono ?_
    rintro e w1 ⟨ak, ck, rfl, hr, hb⟩
    clear b0 bm
    go_wp2_with fail
    go_quiet (fail)
    go_wp2
    go_ret3
    have hbl := below_drewN ((Below.refl w1.heap.size w1).alloc (Nat.le_refl _) (.cells #[.slice ak z0.length ck, .slice a1 n1 c1, .bool false] 35))
    refine ⟨ak, ck, a1, c1, ?_, hr.below (hbl _), ?_, below_drewN (hb.alloc hb.size _) _⟩
    · show _ = Ending.returned (.tuple #[_, .slice a1 z1.length c1, _])
      rw [HL.out]
      rfl
    · show Row _ a1 z1.length z1
      rw [HL.out]
      exact (h1.below hb).below (hbl _)
  · go_enter Try.func10, Try.ntmps10
    go_wp2_with fail
    refine (pair_yes z0 zm (.slice a1 n1 c1) _ b0 bm).mono ?_
    rintro e w1 ⟨ak, ck, av, cv, rfl, hr, hr', hb⟩
    clear b0 bm
    go_wp2_with fail
    go_quiet (fail)
    go_wp2
    go_ret3
    have hbl := below_drewN ((Below.refl w1.heap.size w1).alloc (Nat.le_refl _) (.cells #[.slice ak z0.length ck, .slice av zm.length cv, .bool true] 35))
    exact ⟨ak, ck, av, cv, rfl, hr.below (hbl _), hr'.below (hbl _), below_drewN (hb.alloc hb.size _) _⟩

set_option maxHeartbeats 400000 in
theorem zzBytes4_any (a0 : Option Addr) (n0 c0 : Nat) (a1 : Option Addr) (n1 c1 : Nat) (m : Bool) (w : World) :
    Calls Try.prog 9 #[.slice a0 n0 c0, .slice a1 n1 c1, .bool m] w fun e w' => ∃ b, e = .returned (.bool b) ∧ w' = w := by
  go_enter Try.func9, Try.ntmps9
  go_wp2
  all_goals
    go_ret
    exact ⟨_, rfl, rfl⟩

set_option maxHeartbeats 400000 in
theorem zzBytes3_any (a0 : Option Addr) (n0 c0 : Nat) (a1 : Option Addr) (n1 c1 : Nat) (m : Bool) (a2 : Option Addr) (n2 c2 : Nat) (a3 : Option Addr) (n3 c3 : Nat) (m' : Bool) (w : World) :
    Calls Try.prog 5 #[.slice a0 n0 c0, .slice a1 n1 c1, .bool m, .slice a2 n2 c2, .slice a3 n3 c3, .bool m'] w fun e w' => ∃ b, e = .returned (.bool b) ∧ w' = w := by
  go_enter Try.func5, Try.ntmps5
  go_wp2
  all_goals
    go_ret
    exact ⟨_, rfl, rfl⟩
end Go.Proofs.Qxb6603367a.Bytes
