import Derived.Test.Qxb6002789aWalk
namespace Go.Proofs.Qxb6002789a.Tok
open Go.RowKit Go.Deep Go.ChangeShapes Lk

/-! ### The getters, inside a region that draws -/
theorem q_resource {x : Nat} {nm : ByteArray} {w : World} (h : w.cell? ⟨x, 0, none⟩ = some (.string nm)) (n : Nat) : Calls Try.prog 21 #[.pointer (some ⟨x, 0, none⟩)] (w.drewN n) fun e w'' => e = .returned (.string nm) ∧ ∃ m, w'' = w.drewN m :=
  Calls.quiet_of_same ((get_resource x nm (w.drewN n) h).mono fun _ _ h => ⟨h.1, h.2.symm⟩)
theorem q_last {x : Nat} {v : Int} {w : World} (h : w.cell? ⟨x, 1, none⟩ = some (.int .u64 v)) (n : Nat) : Calls Try.prog 22 #[.pointer (some ⟨x, 0, none⟩)] (w.drewN n) fun e w'' => e = .returned (.int .u64 v) ∧ ∃ m, w'' = w.drewN m :=
  Calls.quiet_of_same ((get_last x v (w.drewN n) h).mono fun _ _ h => ⟨h.1, h.2.symm⟩)
theorem q_version {x : Nat} {v : Int} {w : World} (h : w.cell? ⟨x, 2, none⟩ = some (.int .u64 v)) (n : Nat) : Calls Try.prog 23 #[.pointer (some ⟨x, 0, none⟩)] (w.drewN n) fun e w'' => e = .returned (.int .u64 v) ∧ ∃ m, w'' = w.drewN m :=
  Calls.quiet_of_same ((get_version x v (w.drewN n) h).mono fun _ _ h => ⟨h.1, h.2.symm⟩)
theorem q_isFree {x : Nat} {v : Bool} {w : World} (h : w.cell? ⟨x, 3, none⟩ = some (.bool v)) (n : Nat) : Calls Try.prog 18 #[.pointer (some ⟨x, 0, none⟩)] (w.drewN n) fun e w'' => e = .returned (.bool v) ∧ ∃ m, w'' = w.drewN m :=
  Calls.quiet_of_same ((get_isFree x v (w.drewN n) h).mono fun _ _ h => ⟨h.1, h.2.symm⟩)
theorem q_older {x : Nat} {v : Option Addr} {w : World} (h : w.cell? ⟨x, 4, none⟩ = some (.pointer v)) (n : Nat) : Calls Try.prog 24 #[.pointer (some ⟨x, 0, none⟩)] (w.drewN n) fun e w'' => e = .returned (.pointer v) ∧ ∃ m, w'' = w.drewN m :=
  Calls.quiet_of_same ((get_older x v (w.drewN n) h).mono fun _ _ h => ⟨h.1, h.2.symm⟩)

theorem same_self (w : World) (d : Nat) (a : Addr) : (Op.equalIn (d + 1) 34 (.pointer (some a)) (.pointer (some a))).run Try.prog w = .ok true w := by
  simp [Op.equalIn, run_underlying Try.underlying34, sameAddr, Result.andThen]
theorem ptr_neq (p : Option Nat) (w : World) : (binOp .neq 34 (.pointer (adr p)) (.pointer (adr p))).run Try.prog w = .ok (.bool false) w := by
  cases p with
  | none => simp [go_sem, adr, Try.underlying34]
  | some x =>
    simp only [binOp, adr]
    simp [Op.equal, Op.maxDepth, same_self w 9999]
theorem ptr_eql (p : Option Nat) (w : World) : (binOp .eql 34 (.pointer (adr p)) (.pointer (adr p))).run Try.prog w = .ok (.bool true) w := by
  cases p with
  | none => simp [go_sem, adr, Try.underlying34]
  | some x =>
    simp only [binOp, adr]
    simp [Op.equal, Op.maxDepth, same_self w 9999]

/-- Who came before place k. -/
def bef (fl : List Nat) (k : Nat) : Option Nat := if k = 0 then none else fl[k - 1]?
theorem bef_zero (fl : List Nat) : bef fl 0 = none := rfl
theorem bef_succ (fl : List Nat) (k : Nat) : bef fl (k + 1) = fl[k]? := by simp [bef]
theorem bef_end (fl : List Nat) : bef fl fl.length = fl.getLast? := by
  unfold bef
  split
  · rename_i h
    rw [List.eq_nil_of_length_eq_zero h]
    rfl
  · rw [List.getLast?_eq_getElem?]

/-- The slots of walkIs at the head of a round. -/
def WRel (fl : List Nat) (w : World) (p c i : Value) (wr : World) : Prop :=
  ∃ k : Nat, k ≤ fl.length ∧ i = .int .i64 k ∧ c = .pointer (adr fl[k]?) ∧ p = .pointer (adr (bef fl k)) ∧ ∃ m, wr = w.drewN m

def BOut (w : World) (e : Ending) (w' : World) : Prop := e = .returned (.bool true) ∧ ∃ m, w' = w.drewN m

set_option maxHeartbeats 1000000 in
theorem walkIs_any (base T : Nat) (fg : Int) (bs : List Nat) (nm : Nat → ByteArray) (fl : List Nat) (a : Option Addr) (cap : Nat) (w : World) (h : St base w T fg bs nm fl) (hs : SR w a fl.length (fl.map nm)) :
    Calls Try.prog 17 #[.pointer (some ⟨T, 0, none⟩), .slice a fl.length cap] w (BOut w) := by
  obtain ⟨⟨mv, hT, hM, hMb⟩, hE, hn, hsub, hap, hlen, hfl, hlow, hsh⟩ := h
  have t1 : w.cell? ⟨T, 1, none⟩ = some (.pointer (adr fl.head?)) := by rw [← ptr_adr]; exact hT.cell rfl
  have t2 : w.cell? ⟨T, 2, none⟩ = some (.pointer (adr fl.getLast?)) := by rw [← ptr_adr]; exact hT.cell rfl
  have t3 := hT.cell (i := 3) (v := .int .i64 fl.length) rfl
  have HE : Hid (Ents w bs (fun x => ent (nm x) fg (decide (x ∈ fl)) (prv fl x) (nxt fl x))) := hE
  have HS : Hid (∀ x ∈ fl, x ∈ bs) := hsub
  have HN : Hid fl.Nodup := hn
  have hlen' : fl.length ≤ 100000 := by omega
  have g0 : ((fl.length : Int) != (fl.length : Int)) = false := by simp
  have hh : fl.head? = fl[0]? := List.head?_eq_getElem?
  obtain ⟨hl, h0, h1⟩ := hs
  clear hT hM hMb hE hn hsub hap hlen hfl hlow hsh
  by_cases hp : 0 < fl.length
  · obtain ⟨b, off, rfl, hb, hc'⟩ := h1 hp
    have HC : Hid (∀ i, i < fl.length → w.cell? ⟨b, off + i, none⟩ = some (.string ((fl.map nm).getD i ByteArray.empty))) := hc'
    clear h0 h1 hc' hl
    have HH : Hid (fl.head? = fl[0]?) := hh
    clear hh
    go_enter Try.func17, Try.ntmps17
    go_wp2_with (first | (go_at_call 26; refine (get_frees _ _ _ t3).mono ?_; rintro e w' ⟨rfl, rfl⟩) | (go_at_call 27; refine (get_oldest _ _ _ t1).mono ?_; rintro e w' ⟨rfl, rfl⟩))
    go_loopw [5, 6, 7] (WRel fl w) (fun _ _ i _ => fl.length - (intOf i).toNat)
    case atStart => exact ⟨0, Nat.zero_le _, rfl, by rw [HH.out], rfl, 0, rfl⟩
    case round =>
      obtain ⟨k, hk, rfl, rfl, rfl, m, hm⟩ := hrel
      have HM : Hid (wr = w.drewN m) := hm
      clear hm
      by_cases hlt : k < fl.length
      · have hx := List.getElem_mem hlt
        have hent : Blk w fl[k] (ent (nm fl[k]) fg (decide (fl[k] ∈ fl)) (prv fl fl[k]) (nxt fl fl[k])) 53 := HE.out fl[k] (HS.out _ hx)
        have hdec : decide (fl[k] ∈ fl) = true := by simp
        have hnx := nxt_at HN.out hlt
        have hpv := prv_at HN.out hlt
        rw [hdec, hnx, hpv] at hent
        have hc := HC.out k hlt
        rw [show (fl.map nm).getD k ByteArray.empty = nm fl[k] by simp [List.getD, hlt]] at hc
        rw [List.getElem?_eq_getElem hlt]
        have hbf : (if k = 0 then none else fl[k - 1]?) = bef fl k := rfl
        rw [hbf] at hent
        have hnk := bef_succ fl k
        rw [List.getElem?_eq_getElem hlt] at hnk
        have HNK : Hid (bef fl (k + 1) = some fl[k]) := hnk
        clear hdec hnx hpv hbf hnk hx
        generalize fl[k] = x at hent hc HNK ⊢
        rw [show adr (some x) = some ⟨x, 0, none⟩ from rfl]
        generalize nm x = s at hent hc
        generalize bef fl k = p at hent ⊢
        have hent : Blk wr x (ent s fg true p fl[k + 1]?) 53 := by rw [HM.out]; exact hent.same rfl
        have hc : wr.cell? ⟨b, off + k, none⟩ = some (.string s) := by rw [HM.out]; exact hc
        have c0 := hent.cell (i := 0) (v := .string s) rfl
        have c3 := hent.cell (i := 3) (v := .bool true) rfl
        have c4 : wr.cell? ⟨x, 4, none⟩ = some (.pointer (adr p)) := by rw [← ptr_adr]; exact hent.cell rfl
        have c5 : wr.cell? ⟨x, 5, none⟩ = some (.pointer (adr fl[k + 1]?)) := by rw [← ptr_adr]; exact hent.cell rfl
        clear hent
        go_wp2_with fail
        have qn := ptr_neq p
        go_quiet ((first | (go_at_call 21; exact q_resource c0 _) | (go_at_call 18; exact q_isFree c3 _) | (go_at_call 24; exact q_older c4 _)))
        clear qn
        go_wp2_with (go_at_call 25; refine (get_newer x (adr fl[k + 1]?) _ (by exact c5)).mono ?_; rintro e w' ⟨rfl, rfl⟩)
        go_roundw
        case rel => exact ⟨k + 1, by omega, by go_num, rfl, by rw [HNK.out]; rfl, m + nq, by rw [HM.out, World.drewN_drewN]⟩
        case measure => simp [intOf]; omega
      · obtain rfl : k = fl.length := by omega
        rw [bef_end, List.getElem?_eq_none (Nat.le_refl _), show adr none = none from rfl]
        have t2' : wr.cell? ⟨T, 2, none⟩ = some (.pointer (adr fl.getLast?)) := by rw [HM.out]; exact t2
        have qe := ptr_eql fl.getLast?
        clear t1 t2 t3 HC
        go_wp2_with (go_at_call 28; refine (get_newest T (adr fl.getLast?) _ (by exact t2')).mono ?_; rintro e w' ⟨rfl, rfl⟩)
        go_ret
        exact ⟨rfl, m, HM.out⟩
  · obtain rfl : fl = [] := List.eq_nil_of_length_eq_zero (by omega)
    clear h0 h1 hl hh
    simp only [List.head?_nil, List.getLast?_nil, adr] at t1 t2
    have qe := ptr_eql none
    go_enter Try.func17, Try.ntmps17
    go_wp2_with (first | (go_at_call 26; refine (get_frees _ _ _ t3).mono ?_; rintro e w' ⟨rfl, rfl⟩) | (go_at_call 27; refine (get_oldest _ _ _ t1).mono ?_; rintro e w' ⟨rfl, rfl⟩))
    go_loop [5, 6, 7] (fun p c i => p = .pointer none ∧ c = .pointer none ∧ i = .int .i64 0) (fun _ _ _ => 0)
    case atStart => exact ⟨rfl, rfl, rfl⟩
    case round =>
      obtain ⟨rfl, rfl, rfl⟩ := hrel
      go_wp2_with (go_at_call 28; refine (get_newest _ _ _ t2).mono ?_; rintro e w' ⟨rfl, rfl⟩)
      go_ret
      exact ⟨rfl, 0, rfl⟩
end Go.Proofs.Qxb6002789a.Tok
