import Derived.Test.Qxb6002789aSc
import Derived.Test.Qxb6002789aTrip
namespace Go.Proofs.Qxb6002789a.Tok
open Go.RowKit Go.Deep Go.ChangeShapes Lk

set_option maxRecDepth 100000 in
set_option maxHeartbeats 8000000 in
/-- FnTokensScriptMatchesModel returns true. -/
theorem script (fg : Int) (a1 : Option Addr) (n1 c1 : Nat) (l1 : List Bool) (a2 : Option Addr) (n2 c2 : Nat) (l2 : List ByteArray) (w : World) (h1 : BR w a1 n1 l1) (h2 : SR w a2 n2 l2) (z2 : ∀ s ∈ l2, s.size ≤ maxLen) :
    Calls Try.prog 3 #[.int .u64 fg, .slice a1 n1 c1, .slice a2 n2 c2] w fun e w' => e = .returned (.bool true) ∧ Below w.heap.size w w' := by
  have E1 : Hid (l1.length = n1) := h1.1
  have E2 : Hid (l2.length = n2) := h2.1
  have Z2 : Hid (∀ s ∈ l2, s.size ≤ maxLen) := z2
  clear z2
  obtain ⟨i0, hi, hz0, hz1, hz2⟩ := info_parts info9
  obtain ⟨i4, hi4, hy0, hy1, hy2⟩ := info_parts info34
  go_enter Try.func3, Try.ntmps3
  go_wp2_with fail
  refine (zzBytes3_any fg a1 n1 c1 a2 n2 c2 l2 _ h2).mono ?_
  rintro e wa ⟨rfl, b, rfl⟩
  cases b
  · go_wp2_with fail
    go_ret
    exact ⟨rfl, Below.refl _ _⟩
  by_cases hn1 : 4096 < n1
  · go_wp2_with fail
    go_ret
    exact ⟨rfl, Below.refl _ _⟩
  by_cases hn2 : 4096 < n2
  · go_wp2_with fail
    go_ret
    exact ⟨rfl, Below.refl _ _⟩
  go_wp2_with fail
  refine (stringBytes_any a2 n2 c2 l2 _ h2).mono ?_
  rintro e wa ⟨hw, t1, rfl⟩
  have hw' := hw.symm
  subst hw'
  clear hw
  go_wp2_with fail
  · go_ret
    exact ⟨rfl, Below.refl _ _⟩
  refine (cloneBools_any a1 n1 c1 l1 _ h1 (by omega)).mono ?_
  rintro e w1 ⟨a3, rfl, s1, b1⟩
  rw [E1.out]
  go_wp2_with fail
  refine (clone_any a2 n2 c2 l2 _ (h2.below b1) (by omega)).mono ?_
  rintro e w2 ⟨a4, rfl, s2, b2⟩
  rw [E2.out] at s2 ⊢
  have s1 := s1.below b2
  have b2 : Below w.heap.size w w2 := b1.trans (b2.mono b1.size)
  clear b1 h1 h2
  obtain ⟨n, HMN⟩ : ∃ n, Hid (n = if n1 < n2 then n1 else n2) := ⟨_, rfl⟩
  have hle1 : n ≤ n1 := by rw [HMN.out]; split <;> omega
  have hle2 : n ≤ n2 := by rw [HMN.out]; split <;> omega
  by_cases hmn : n1 < n2
  all_goals
    first
      | (have hne : n1 = n := by rw [HMN.out, if_pos hmn]
         have HNE : Hid (n1 = n) := hne
         clear hne)
      | (have hne : n2 = n := by rw [HMN.out, if_neg hmn]
         have HNE : Hid (n2 = n) := hne
         clear hne)
    go_wp2_with fail
    refine (newTokens_any fg _).mono ?_
    rintro e w3 ⟨rfl, rfl⟩
    have g3 := St.start w.heap.size fg w2 b2.size (fun _ => ByteArray.empty)
    have s1 := s1.below ((Below.refl _ _).alloc (Nat.le_refl _) (.cells (tokc (.map none) none none 0 fg) 44))
    have s2 := s2.below ((Below.refl _ _).alloc (Nat.le_refl _) (.cells (tokc (.map none) none none 0 fg) 44))
    have b3 := b2.alloc b2.size (.cells (tokc (.map none) none none 0 fg) 44)
    clear b2
    generalize w2.heap.size = T at g3 ⊢
    generalize w2.alloc (.cells (tokc (.map none) none none 0 fg) 44) = w3 at g3 s1 s2 b3 ⊢
    go_wp2_with fail
    have e := HNE.out.symm
    subst e
    clear HNE hmn HMN
    go_loopw [9, 10, 11, 12] (ScRel w.heap.size T fg n w3) (fun _ _ _ i _ => n - (intOf i).toNat)
    case atStart => exact ⟨0, [], _, [], Nat.zero_le _, rfl, Nat.le_refl _, g3, Kp.refl _ _, ⟨by simp, .inl ⟨rfl, rfl⟩⟩, ⟨by simp, .inl ⟨rfl, rfl⟩⟩, ⟨by simp, .inl ⟨rfl, rfl⟩⟩, fun g h => by cases h⟩
    case round =>
      obtain ⟨k, bs, nm, fl, hk, rfl, hbl, hsc⟩ := hrel
      have hfl := hsc.st.flen
      by_cases hlt : k < n
      · obtain ⟨ln, HLN⟩ : ∃ ln, Hid (bs.map nm = ln) := ⟨_, rfl⟩
        obtain ⟨lo, HLO⟩ : ∃ lo, Hid (fl.map nm = lo) := ⟨_, rfl⟩
        rw [HLN.out, HLO.out] at hsc
        have hlnl : ln.length ≤ 5000 := by rw [← HLN.out, List.length_map]; omega
        have hlol : lo.length ≤ 5000 := by rw [← HLO.out, List.length_map]; omega
        have s2' := s2.kp hsc.kp
        obtain ⟨a, c, ev, hsr, _⟩ := s2'.shape
        rw [E2.out] at ev hsr
        cases ev
        obtain ⟨b, o, rfl, _, hc⟩ := hsr.2.2 (by omega)
        have hck := hc k (by omega)
        obtain ⟨u, hu⟩ : ∃ u, u = l2.getD k ByteArray.empty := ⟨_, rfl⟩
        rw [← hu] at hck
        have HZ : Hid (u.size ≤ maxLen) := Z2.out u (by rw [hu]; exact getD_mem (by rw [E2.out]; omega))
        obtain ⟨g, rfl, hr⟩ := (s1.kp hsc.kp) (by rw [E1.out]; omega)
        have hfk := hr.cell (i := k) (by rw [E1.out]; omega)
        generalize l1.getD k false = f at hfk
        clear hc hu hsr s2' hr
        obtain ⟨aN, cN, rfl, hsrN, _⟩ := hsc.sn.shape
        obtain ⟨aP, cP, rfl, hprP, _⟩ := hsc.sp.shape
        obtain ⟨aO, cO, rfl, hsrO, _⟩ := hsc.so.shape
        have hbw : w.heap.size ≤ wr.heap.size := Nat.le_trans b3.size hsc.kp.size
        have hap := hsc.st.apart
        have hsub := hsc.st.sub
        have HAP : Hid (∀ x ∈ bs, ∀ y ∈ bs, nm x = nm y → x = y) := hap
        have HSUB : Hid (∀ x ∈ fl, x ∈ bs) := hsub
        clear hap hsub
        go_wp2_with fail
        refine (indexOf_any aN _ cN ln u _ hsrN (by omega)).mono ?_
        rintro e wx ⟨hw, hix⟩
        have hw' := hw.symm
        subst hw'
        clear hw hsrN
        cases f
        · rcases hix with ⟨rfl, hni⟩ | ⟨j, rfl, hj, hju⟩
          · have HNI : Hid (u ∉ bs.map nm) := by rw [HLN.out]; exact hni
            clear hni hprP hsrO
            go_wp2_with fail
            refine (zzHold_any w.heap.size T fg bs nm fl u HZ.out _ hsc.st (by omega) hbw).mono ?_
            rintro e w5 ⟨x, bs', nm', rfl, g5, kp5, hx, hnx, hcs⟩
            have hnames := hold_names hsc.st g5 hx hnx hcs
            rw [HLO.out] at hnames
            have HNM : Hid ((del fl x).map nm' = wo lo u) := hnames
            have hent := hold_entry g5 hx
            rw [hnx] at hent
            have hno := hold_no HNI.out hx hnx hcs
            rw [HLN.out] at hno
            have HXB : Hid (x ∉ bs) := hno.1
            have HBS : Hid (bs' = bs ++ [x]) := hno.2.1
            have HBN : Hid (bs'.map nm' = ln ++ [u]) := hno.2.2
            have hsc5 := hsc.op g5 kp5
            have HEN : Hid (Blk w5 x (ent u fg false none none) 53) := hent
            clear hnames hno g5 kp5 hx hnx hcs hsc
            go_wp2_with fail
            refine (heldEntry_any x u fg _ hent).mono ?_
            rintro e wx ⟨rfl, hw⟩
            have hw' := hw.symm
            subst hw'
            clear hw hent
            go_wp2_with fail
            go_loop [16] (fun i => ∃ k2 : Nat, k2 ≤ bs.length ∧ i = .int .i64 k2) (fun i => bs.length - (intOf i).toNat)
            case atStart => exact ⟨0, Nat.zero_le _, rfl⟩
            case round =>
              obtain ⟨k2, hk2, rfl⟩ := hrel
              by_cases hlt2 : k2 < bs.length
              · obtain ⟨aP', cP', ev, hpr, _⟩ := hsc5.sp.shape
                cases ev
                obtain ⟨b2, o2, rfl, _, hc2⟩ := hpr.2.2 (by omega)
                have hcp := hc2 k2 hlt2
                rw [show bs.getD k2 0 = bs[k2] by simp [List.getD, hlt2]] at hcp
                have hm := List.getElem_mem hlt2
                have hb2 := hsc5.st.ents bs[k2] (by rw [HBS.out]; simp)
                have qo := ptr_other hb2 HEN.out (fun e => HXB.out (e ▸ hm))
                clear hc2 hpr hb2 hm hsc5
                generalize bs[k2] = y at hcp qo
                go_wp2_with fail
                go_round
                case rel => exact ⟨k2 + 1, by omega, by go_num⟩
                case measure => simp [intOf]; omega
              · obtain rfl : k2 = bs.length := by omega
                have hown : w5.ownsRow w3.heap.size 9 1 (.slice aN ln.length cN) ln.length (ln.map Value.string) := hsc5.sn
                have hsz : w3.heap.size ≤ w5.heap.size := hsc5.kp.size
                go_wp2_with (at_builtin; refine wpList_append_own_at _ rfl _ _ 24 rfl w3.heap.size 9 i0 (.string ⟨#[]⟩) 1 16 Try.underlying24 hi hz0 hz1 hz2 rfl (by decide) _ _ _ rfl (hown.alloc _) ⟨w5.heap.size, 0, none⟩ 1 1 [.string u] rfl rfl (cell_one_new _ _ _) (by simp [Value.oneCell']) (by unfold maxLen; omega) (by omega) (by simp; omega) ?_)
                intro v1 w6 hown' hgrow _ hloc
                have hsc6 := hsc5.appN hown' hgrow (by simpa using hloc)
                clear hown' hgrow hloc hown hsc5
                have hown : w6.ownsRow w3.heap.size 34 1 (.slice aP bs.length cP) bs.length (bs.map pp) := hsc6.sp
                have hsz6 : w3.heap.size ≤ w6.heap.size := hsc6.kp.size
                go_wp2_with (at_builtin; refine wpList_append_own_at _ rfl _ _ 31 rfl w3.heap.size 34 i4 (.pointer none) 1 8 Try.underlying31 hi4 hy0 hy1 hy2 rfl (by decide) _ _ _ rfl (hown.alloc _) ⟨w6.heap.size, 0, none⟩ 1 1 [.pointer (some ⟨x, 0, none⟩)] rfl rfl (cell_one_new _ _ _) (by simp [Value.oneCell']) (by unfold maxLen; omega) (by omega) (by simp; omega) ?_)
                intro v2 w7 hown' hgrow _ hloc
                have hsc7 := hsc6.appP hown' hgrow
                clear hown' hgrow hloc hown hsc6
                obtain ⟨aO', cO', ev, hsrO, _⟩ := hsc7.so.shape
                cases ev
                go_wp2_with fail
                refine (without_any aO _ cO lo u _ hsrO (by omega)).mono ?_
                rintro e w8 ⟨v', rfl, s8, b8⟩
                have R := (hsc7.newO b8 s8).as HBN.out.symm HBS.out.symm HNM.out.symm
                clear s8 b8 hsrO hsc7
                go_wp2_with fail
                go_roundw
                case rel => exact ⟨k + 1, bs', nm', del fl x, by omega, by go_num, by rw [HBS.out]; simp; omega, R⟩
                case measure => simp [intOf]; omega
          · have HM : Hid (u ∈ bs.map nm) := by rw [HLN.out, ← hju]; exact getD_mem hj
            have hjl : j < bs.length := by rw [← HLN.out, List.length_map] at hj; exact hj
            have HJ : Hid (nm (bs.getD j 0) = u ∧ bs.getD j 0 ∈ bs) := by
              have e1 : (bs.map nm).getD j ByteArray.empty = nm bs[j] := by simp [List.getD, hjl]
              have e2 : bs.getD j 0 = bs[j] := by simp [List.getD, hjl]
              rw [← HLN.out, e1] at hju
              show nm (bs.getD j 0) = u ∧ bs.getD j 0 ∈ bs
              rw [e2]
              exact ⟨hju, List.getElem_mem hjl⟩
            clear hj hju hprP hsrO
            go_wp2_with fail
            refine (zzHold_any w.heap.size T fg bs nm fl u HZ.out _ hsc.st (by omega) hbw).mono ?_
            rintro e w5 ⟨x, bs', nm', rfl, g5, kp5, hx, hnx, hcs⟩
            have hnames := hold_names hsc.st g5 hx hnx hcs
            rw [HLO.out] at hnames
            obtain ⟨q1, q2⟩ := hold_yes HM.out hcs
            have q1 := q1.symm
            have q2 := q2.symm
            subst q1 q2
            have HNM : Hid ((del fl x).map nm = wo lo u) := hnames
            have hent := hold_entry g5 hx
            rw [hnx] at hent
            have hjx : bs.getD j 0 = x := HAP.out _ HJ.out.2 _ hx (HJ.out.1.trans hnx.symm)
            have hsc5 := hsc.op g5 kp5
            obtain ⟨aP', cP', ev, hpr, _⟩ := hsc5.sp.shape
            cases ev
            obtain ⟨b2, o2, rfl, _, hc2⟩ := hpr.2.2 (by omega)
            have hcp := hc2 j hjl
            rw [hjx] at hcp
            have qx : ∀ w, (binOp .neq 34 (.pointer (some ⟨x, 0, none⟩)) (.pointer (some ⟨x, 0, none⟩))).run Try.prog w = .ok (.bool false) w := ptr_neq (some x)
            obtain ⟨aO', cO', ev, hsrO, _⟩ := hsc5.so.shape
            cases ev
            clear hnames g5 kp5 hx hnx hcs hsc hjx hc2 hpr
            go_wp2_with fail
            refine (heldEntry_any x u fg _ hent).mono ?_
            rintro e wx ⟨rfl, hw⟩
            have hw' := hw.symm
            subst hw'
            clear hw hent
            go_wp2_with fail
            refine (without_any aO _ cO lo u _ hsrO (by omega)).mono ?_
            rintro e w8 ⟨v', rfl, s8, b8⟩
            have R := (hsc5.newO b8 s8).as HLN.out.symm rfl HNM.out.symm
            clear s8 b8 hsrO hsc5 hcp qx
            go_wp2_with fail
            go_roundw
            case rel => exact ⟨k + 1, bs, nm, del fl x, by omega, by go_num, by omega, R⟩
            case measure => simp [intOf]; omega
        · clear hprP
          rcases hix with ⟨rfl, hni⟩ | ⟨j, rfl, hj, hju⟩
          · have HNI : Hid (u ∉ bs.map nm) := by rw [HLN.out]; exact hni
            clear hni
            go_wp2_with fail
            refine (zzFree_any w.heap.size T fg bs nm fl u HZ.out _ hsc.st).mono ?_
            rintro e w5 ⟨rfl, fl', g5, kp5, hcs⟩
            obtain rfl : fl' = fl := free_no HAP.out HSUB.out (.inl HNI.out) hcs
            have R := (hsc.op g5 kp5).as HLN.out.symm rfl HLO.out.symm
            clear g5 kp5 hcs hsc hsrO
            go_wp2_with fail
            go_roundw
            case rel => exact ⟨k + 1, bs, nm, fl', by omega, by go_num, by omega, R⟩
            case measure => simp [intOf]; omega
          · have HM : Hid (u ∈ bs.map nm) := by rw [HLN.out, ← hju]; exact getD_mem hj
            clear hj hju
            go_wp2_with fail
            refine (zzFree_any w.heap.size T fg bs nm fl u HZ.out _ hsc.st).mono ?_
            rintro e w5 ⟨rfl, fl', g5, kp5, hcs⟩
            have hsc5 := hsc.op g5 kp5
            clear g5 kp5 hsc hsrO
            obtain ⟨aO', cO', ev, hsrO, _⟩ := hsc5.so.shape
            cases ev
            go_wp2_with fail
            refine (indexOf_any aO _ cO lo u _ hsrO (by omega)).mono ?_
            rintro e wx ⟨hw, hix⟩
            have hw' := hw.symm
            subst hw'
            clear hw hsrO
            rcases hix with ⟨rfl, hni⟩ | ⟨j', rfl, hj', hju'⟩
            · have hfm := free_yes HM.out (by rw [HLO.out]; exact hni) hcs
              rw [HLO.out] at hfm
              have HFM : Hid (fl'.map nm = lo ++ [u]) := hfm
              have hown : w5.ownsRow w3.heap.size 9 1 (.slice aO lo.length cO) lo.length (lo.map Value.string) := hsc5.so
              have hsz : w3.heap.size ≤ w5.heap.size := hsc5.kp.size
              clear hni hcs hfm
              go_wp2_with (at_builtin; refine wpList_append_own_at _ rfl _ _ 24 rfl w3.heap.size 9 i0 (.string ⟨#[]⟩) 1 16 Try.underlying24 hi hz0 hz1 hz2 rfl (by decide) _ _ _ rfl (hown.alloc _) ⟨w5.heap.size, 0, none⟩ 1 1 [.string u] rfl rfl (cell_one_new _ _ _) (by simp [Value.oneCell']) (by unfold maxLen; omega) (by omega) (by simp; omega) ?_)
              intro v' w6 hown' hgrow _ hloc
              have R := (hsc5.appO hown' hgrow (by simpa using hloc)).as HLN.out.symm rfl HFM.out.symm
              clear hown' hgrow hloc hsc5
              go_wp2_with fail
              go_roundw
              case rel => exact ⟨k + 1, bs, nm, fl', by omega, by go_num, by omega, R⟩
              case measure => simp [intOf]; omega
            · obtain rfl : fl' = fl := free_no HAP.out HSUB.out (.inr (by rw [HLO.out, ← hju']; exact getD_mem hj')) hcs
              have R := hsc5.as HLN.out.symm rfl HLO.out.symm
              clear hcs hsc5 hj' hju'
              go_wp2_with fail
              go_roundw
              case rel => exact ⟨k + 1, bs, nm, fl', by omega, by go_num, by omega, R⟩
              case measure => simp [intOf]; omega
      · obtain rfl : n = k := by omega
        obtain ⟨aN, cN, rfl, hsrN, _⟩ := hsc.sn.shape
        obtain ⟨aP, cP, rfl, hprP, _⟩ := hsc.sp.shape
        obtain ⟨aO, cO, rfl, hsrO, _⟩ := hsc.so.shape
        simp only [List.length_map] at hsrN hsrO ⊢
        have b4 := b3.trans (hsc.kp.below b3.size)
        go_wp2_with fail
        refine (stateMatches_any w.heap.size T fg bs nm fl bs.length fl.length aN aP aO cN cP cO _ hsc.st rfl rfl hsrN hprP hsrO).mono ?_
        rintro e wx ⟨rfl, m, rfl⟩
        go_wp2_with fail
        go_ret
        exact ⟨rfl, below_drewN b4 m⟩
end Go.Proofs.Qxb6002789a.Tok
