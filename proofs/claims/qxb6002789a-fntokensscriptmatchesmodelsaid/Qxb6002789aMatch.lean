import Derived.Test.Qxb6002789aPtrs
namespace Go.Proofs.Qxb6002789a.Tok
open Go.RowKit Go.Deep Go.ChangeShapes Lk

/-- The slots of the first loop. -/
def MRel (fl : List Nat) (p c i : Value) : Prop :=
  ∃ k : Nat, k ≤ fl.length ∧ i = .int .i64 k ∧ c = .pointer (adr fl[k]?) ∧ p = .pointer (adr (bef fl k))
/-- The slots of the second loop. -/
def NRel (n : Nat) (w : World) (i : Value) (wr : World) : Prop := ∃ k : Nat, k ≤ n ∧ i = .int .i64 k ∧ ∃ m, wr = w.drewN m

theorem SR.drewN {w : World} {a : Option Addr} {n : Nat} {l : List ByteArray} (h : SR w a n l) (m : Nat) : SR (w.drewN m) a n l := h

set_option maxRecDepth 100000 in
set_option maxHeartbeats 2000000 in
theorem stateMatches_any (base T : Nat) (fg : Int) (bs : List Nat) (nm : Nat → ByteArray) (fl : List Nat) (nb nf : Nat) (aN aP aO : Option Addr) (cN cP cO : Nat) (w : World) (h : St base w T fg bs nm fl) (hnb : nb = bs.length) (hnf : nf = fl.length)
    (hN : SR w aN nb (bs.map nm)) (hP : PR w aP nb bs) (hO : SR w aO nf (fl.map nm)) :
    Calls Try.prog 15 #[.pointer (some ⟨T, 0, none⟩), .int .u64 fg, .slice aN nb cN, .slice aP nb cP, .slice aO nf cO] w (BOut w) := by
  obtain ⟨⟨mv, hT, _, _⟩, hE, hn, hsub, hap, hlen, hfl, _, _⟩ := h
  have t1 : w.cell? ⟨T, 1, none⟩ = some (.pointer (adr fl.head?)) := by rw [← ptr_adr]; exact hT.cell rfl
  have t2 : w.cell? ⟨T, 2, none⟩ = some (.pointer (adr fl.getLast?)) := by rw [← ptr_adr]; exact hT.cell rfl
  have t3 : w.cell? ⟨T, 3, none⟩ = some (.int .i64 nf) := by rw [hnf]; exact hT.cell rfl
  have HE : Hid (Ents w bs (fun x => ent (nm x) fg (decide (x ∈ fl)) (prv fl x) (nxt fl x))) := hE
  have HS : Hid (∀ x ∈ fl, x ∈ bs) := hsub
  have HN : Hid fl.Nodup := hn
  have HA : Hid (∀ x ∈ bs, ∀ y ∈ bs, nm x = nm y → x = y) := hap
  have HO : Hid (SR w aO nf (fl.map nm)) := hO
  have HNm : Hid (SR w aN nb (bs.map nm)) := hN
  have HP : Hid (PR w aP nb bs) := hP
  have HB : Hid (nb = bs.length) := hnb
  have HF : Hid (nf = fl.length) := hnf
  have g0 : ((nf : Int) != (nf : Int)) = false := by simp
  have HH : Hid (fl.head? = fl[0]?) := List.head?_eq_getElem?
  have hb1 : nb ≤ 100000 := by omega
  have hb2 : nf ≤ 100000 := by omega
  clear hT hE hn hsub hap hlen hfl hO hN hP hnb hnf
  go_enter Try.func15, Try.ntmps15
  go_wp2_with (first | (go_at_call 26; refine (get_frees _ _ _ t3).mono ?_; rintro e w' ⟨rfl, rfl⟩) | (go_at_call 27; refine (get_oldest _ _ _ t1).mono ?_; rintro e w' ⟨rfl, rfl⟩))
  go_loop [11, 12, 13] (MRel fl) (fun _ _ i => nf - (intOf i).toNat)
  case atStart => exact ⟨0, Nat.zero_le _, rfl, by rw [HH.out], rfl⟩
  case round =>
    obtain ⟨k, hk, rfl, rfl, rfl⟩ := hrel
    rw [← HF.out] at hk
    by_cases hlt : k < nf
    · have hlt' : k < fl.length := by rw [← HF.out]; exact hlt
      have hx := List.getElem_mem hlt'
      have hxb := HS.out _ hx
      have hent : Blk w fl[k] (ent (nm fl[k]) fg (decide (fl[k] ∈ fl)) (prv fl fl[k]) (nxt fl fl[k])) 53 := HE.out fl[k] hxb
      have hdec : decide (fl[k] ∈ fl) = true := by simp
      rw [hdec, nxt_at HN.out hlt', prv_at HN.out hlt', show (if k = 0 then none else fl[k - 1]?) = bef fl k from rfl] at hent
      obtain ⟨b, o, rfl, _, hc⟩ := HO.out.2.2 (by omega)
      have hck := hc k hlt
      rw [show (fl.map nm).getD k ByteArray.empty = nm fl[k] by simp [List.getD, hlt']] at hck
      rw [List.getElem?_eq_getElem hlt']
      have hnk := bef_succ fl k
      rw [List.getElem?_eq_getElem hlt'] at hnk
      have HNK : Hid (bef fl (k + 1) = some fl[k]) := hnk
      have HXB : Hid (fl[k] ∈ bs) := hxb
      clear hdec hnk hx hc hxb
      generalize fl[k] = x at hent hck HNK HXB ⊢
      rw [show adr (some x) = some ⟨x, 0, none⟩ from rfl]
      generalize bef fl k = p at hent ⊢
      have c3 := hent.cell (i := 3) (v := .bool true) rfl
      have c4 : w.cell? ⟨x, 4, none⟩ = some (.pointer (adr p)) := by rw [← ptr_adr]; exact hent.cell rfl
      have c5 : w.cell? ⟨x, 5, none⟩ = some (.pointer (adr fl[k + 1]?)) := by rw [← ptr_adr]; exact hent.cell rfl
      clear hent
      obtain ⟨u, hu⟩ : ∃ u, u = nm x := ⟨_, rfl⟩
      rw [← hu] at hck
      have HU : Hid (u = nm x) := hu
      clear hu
      go_wp2_with fail
      refine (indexOf_any aN nb cN (bs.map nm) u _ HNm.out (by omega)).mono ?_
      rintro e wx ⟨hw, hix⟩
      have hw' := hw.symm
      subst hw'
      clear hw
      rcases hix with ⟨rfl, hni⟩ | ⟨j, rfl, hj, hju⟩
      · exact absurd (by rw [HU.out]; exact List.mem_map_of_mem HXB.out) hni
      · have hj' : j < bs.length := by simpa using hj
        have hjn : j < nb := by rw [HB.out]; exact hj'
        have hjx : bs.getD j 0 = x := by
          have e1 : (bs.map nm).getD j ByteArray.empty = nm bs[j] := by simp [List.getD, hj']
          rw [e1, HU.out] at hju
          rw [show bs.getD j 0 = bs[j] by simp [List.getD, hj']]
          exact HA.out _ (List.getElem_mem hj') _ HXB.out hju
        obtain ⟨b2, o2, rfl, _, hc2⟩ := HP.out.2.2 (by omega)
        have hcj := hc2 j hjn
        rw [hjx] at hcj
        have qx : ∀ w, (binOp .neq 34 (.pointer (some ⟨x, 0, none⟩)) (.pointer (some ⟨x, 0, none⟩))).run Try.prog w = .ok (.bool false) w := ptr_neq (some x)
        have qp := ptr_neq p
        clear hc2 hju hj hj' hjx
        go_wp2_with (first | (go_at_call 18; refine (get_isFree x true _ c3).mono ?_; rintro e w' ⟨rfl, rfl⟩) | (go_at_call 24; refine (get_older x (adr p) _ c4).mono ?_; rintro e w' ⟨rfl, rfl⟩) | (go_at_call 25; refine (get_newer x (adr fl[k + 1]?) _ c5).mono ?_; rintro e w' ⟨rfl, rfl⟩))
        go_round
        case rel => exact ⟨k + 1, by rw [← HF.out]; omega, by go_num, rfl, by rw [HNK.out]; rfl⟩
        case measure => simp [intOf]; omega
    · obtain rfl : nf = k := by omega
      have e1 : fl[nf]? = none := List.getElem?_eq_none (by rw [HF.out]; exact Nat.le_refl _)
      have e2 : bef fl nf = fl.getLast? := by rw [HF.out]; exact bef_end fl
      rw [e1, e2, show adr none = none from rfl]
      have ql := ptr_neq fl.getLast?
      clear e1 e2
      go_wp2_with (go_at_call 28; refine (get_newest T (adr fl.getLast?) _ t2).mono ?_; rintro e w' ⟨rfl, rfl⟩)
      go_loopw [15] (NRel nb w) (fun i _ => nb - (intOf i).toNat)
      case atStart => exact ⟨0, Nat.zero_le _, rfl, 0, rfl⟩
      case round =>
        obtain ⟨k2, hk2, rfl, m, hm⟩ := hrel
        have HM : Hid (wr = w.drewN m) := hm
        clear hm ql t1 t2 t3
        by_cases hlt2 : k2 < nb
        · have hlt2' : k2 < bs.length := by rw [← HB.out]; exact hlt2
          have hent : Blk w bs[k2] (ent (nm bs[k2]) fg (decide (bs[k2] ∈ fl)) (prv fl bs[k2]) (nxt fl bs[k2])) 53 := HE.out bs[k2] (List.getElem_mem hlt2')
          obtain ⟨b, o, rfl, _, hc⟩ := HNm.out.2.2 (by omega)
          have hck := hc k2 hlt2
          rw [show (bs.map nm).getD k2 ByteArray.empty = nm bs[k2] by simp [List.getD, hlt2']] at hck
          obtain ⟨b2, o2, rfl, _, hc2⟩ := HP.out.2.2 (by omega)
          have hcp := hc2 k2 hlt2
          rw [show bs.getD k2 0 = bs[k2] by simp [List.getD, hlt2']] at hcp
          clear hc hc2
          have HO' : Hid (SR wr aO nf (fl.map nm)) := by rw [HM.out]; exact HO.out.drewN m
          have hent : Blk wr bs[k2] (ent (nm bs[k2]) fg (decide (bs[k2] ∈ fl)) (prv fl bs[k2]) (nxt fl bs[k2])) 53 := by rw [HM.out]; exact hent.same rfl
          have hck : wr.cell? ⟨b, o + k2, none⟩ = some (.string (nm bs[k2])) := by rw [HM.out]; exact hck
          have hcp : wr.cell? ⟨b2, o2 + k2, none⟩ = some (.pointer (some ⟨bs[k2], 0, none⟩)) := by rw [HM.out]; exact hcp
          generalize bs[k2] = x at hent hck hcp
          obtain ⟨u, hu⟩ : ∃ u, u = nm x := ⟨_, rfl⟩
          rw [← hu] at hck hent
          have HU : Hid (u = nm x) := hu
          clear hu
          have c0 := hent.cell (i := 0) (v := .string u) rfl
          have c1 := hent.cell (i := 1) (v := .int .u64 fg) rfl
          have c2 := hent.cell (i := 2) (v := .int .u64 0) rfl
          have HEN : Hid (Blk wr x (ent u fg (decide (x ∈ fl)) (prv fl x) (nxt fl x)) 53) := hent
          clear hent
          go_wp2_with fail
          go_quiet ((first | (go_at_call 21; exact q_resource c0 _) | (go_at_call 22; exact q_last c1 _) | (go_at_call 23; exact q_version c2 _)))
          clear c0 c1 c2
          go_wp2_with fail
          refine (indexOf_any aO nf cO (fl.map nm) u _ (HO'.out.drewN nq) (by omega)).mono ?_
          rintro e wx ⟨hw, hix⟩
          have hw' := hw.symm
          subst hw'
          clear hw
          rcases hix with ⟨rfl, hni⟩ | ⟨j, rfl, hj, hju⟩
          · have hxf : x ∉ fl := fun hx => hni (by rw [HU.out]; exact List.mem_map_of_mem hx)
            have hent := HEN.out
            rw [prv_out _ _ hxf, nxt_out _ _ hxf, show decide (x ∈ fl) = false by simpa using hxf] at hent
            have hent : Blk (wr.drewN nq) x (ent u fg false none none) 53 := hent.same rfl
            have d3 := hent.cell (i := 3) (v := .bool false) rfl
            have d4 := hent.cell (i := 4) (v := .pointer none) rfl
            have d5 := hent.cell (i := 5) (v := .pointer none) rfl
            clear hent hxf hni
            go_wp2_with (first | (go_at_call 18; refine (get_isFree x false _ d3).mono ?_; rintro e w' ⟨rfl, rfl⟩) | (go_at_call 24; refine (get_older x none _ d4).mono ?_; rintro e w' ⟨rfl, rfl⟩) | (go_at_call 25; refine (get_newer x none _ d5).mono ?_; rintro e w' ⟨rfl, rfl⟩))
            go_roundw
            case rel => exact ⟨k2 + 1, by omega, by go_num, m + nq, by rw [HM.out, World.drewN_drewN]⟩
            case measure => simp [intOf]; omega
          · clear hj hju
            go_wp2_with fail
            go_roundw
            case rel => exact ⟨k2 + 1, by omega, by go_num, m + nq, by rw [HM.out, World.drewN_drewN]⟩
            case measure => simp [intOf]; omega
        · go_wp2_with fail
          go_ret
          exact ⟨rfl, m, HM.out⟩
end Go.Proofs.Qxb6002789a.Tok
