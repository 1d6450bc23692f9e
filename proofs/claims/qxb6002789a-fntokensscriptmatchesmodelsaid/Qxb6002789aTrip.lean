import Derived.Test.Qxb6002789aOps
namespace Go.Proofs.Qxb6002789a.Tok
open Go.RowKit Go.Deep Go.ChangeShapes Lk

/-! ### The free list that the law expects -/
/-- One more freed resource. -/
def isIn (l : List ByteArray) (s : ByteArray) : Bool := l.any (fun x => decide (x = s))
theorem isIn_iff {l : List ByteArray} {s : ByteArray} : isIn l s = true ↔ s ∈ l := by
  unfold isIn
  simp
def add1 (held acc : List ByteArray) (s : ByteArray) : List ByteArray := if (isIn held s && !isIn acc s) = true then acc ++ [s] else acc
theorem add1_yes {held acc : List ByteArray} {s : ByteArray} (h1 : s ∈ held) (h2 : s ∉ acc) : add1 held acc s = acc ++ [s] := by
  unfold add1
  rw [if_pos]
  have h3 : isIn acc s = false := by
    cases h : isIn acc s
    · rfl
    · exact absurd (isIn_iff.1 h) h2
  simp [isIn_iff.2 h1, h3]
theorem add1_no {held acc : List ByteArray} {s : ByteArray} (h : s ∉ held ∨ s ∈ acc) : add1 held acc s = acc := by
  unfold add1
  rw [if_neg]
  intro h1
  simp at h1
  rcases h with h | h
  · exact h (isIn_iff.1 h1.1)
  · rw [isIn_iff.2 h] at h1
    exact absurd h1.2 (by simp)
def l0m (held : List ByteArray) (fs : List ByteArray) : List ByteArray := fs.foldl (add1 held) []
theorem l0m_take (held fs : List ByteArray) {k : Nat} (hk : k < fs.length) : l0m held (fs.take (k + 1)) = add1 held (l0m held (fs.take k)) (fs.getD k ByteArray.empty) := by
  unfold l0m
  rw [List.take_succ_eq_append_getElem hk, List.foldl_append]
  simp [List.getD, hk]
theorem add1_len (held acc : List ByteArray) (s : ByteArray) : (add1 held acc s).length ≤ acc.length + 1 := by
  unfold add1
  split <;> simp
theorem l0m_len (held fs : List ByteArray) : ∀ k, k ≤ fs.length → (l0m held (fs.take k)).length ≤ k
  | 0, _ => by simp [l0m]
  | k + 1, h => by
    rw [l0m_take held fs (by omega)]
    have h1 := add1_len held (l0m held (fs.take k)) (fs.getD k ByteArray.empty)
    have h2 := l0m_len held fs k (by omega)
    omega

theorem getD_mem {l : List ByteArray} {k : Nat} (h : k < l.length) : l.getD k ByteArray.empty ∈ l := by
  simp [List.getD, h]

/-- Loop 1: the resources held so far are known. -/
def L1 (base : Nat) (fg : Int) (T : Nat) (held : List ByteArray) (w0 : World) (i : Value) (wr : World) : Prop :=
  ∃ (k : Nat) (bs : List Nat) (nm : Nat → ByteArray), k ≤ held.length ∧ i = .int .i64 k ∧ St base wr T fg bs nm [] ∧ Kp base w0 wr ∧ bs.length ≤ k ∧ ∀ s, (∃ x ∈ bs, nm x = s) ↔ s ∈ held.take k
/-- Loop 2: the free ones are those of the law. -/
def L2 (base : Nat) (fg : Int) (T : Nat) (bs : List Nat) (nm : Nat → ByteArray) (held freed : List ByteArray) (w0 : World) (i : Value) (wr : World) : Prop :=
  ∃ (k : Nat) (fl : List Nat), k ≤ freed.length ∧ i = .int .i64 k ∧ St base wr T fg bs nm fl ∧ Kp base w0 wr ∧ fl.map nm = l0m held (freed.take k)
/-- Loop 3: the list that the law builds. -/
def L3 (held freed : List ByteArray) (w0 : World) (v i : Value) (wr : World) : Prop :=
  ∃ k : Nat, k ≤ freed.length ∧ i = .int .i64 k ∧ SL wr w0.heap.size v (l0m held (freed.take k)) ∧ Below w0.heap.size w0 wr

theorem known_step {bs bs' : List Nat} {nm nm' : Nat → ByteArray} {held : List ByteArray} {k : Nat} {r : ByteArray} {x : Nat} (hk : k < held.length) (hr : r = held.getD k ByteArray.empty) (h : ∀ s, (∃ x ∈ bs, nm x = s) ↔ s ∈ held.take k) (hx : x ∈ bs') (hn : nm' x = r)
    (hc : (bs' = bs ∧ nm' = nm) ∨ (x ∉ bs ∧ (∀ y ∈ bs, nm y ≠ r) ∧ bs' = bs ++ [x] ∧ nm' = upd nm x r)) : ∀ s, (∃ x ∈ bs', nm' x = s) ↔ s ∈ held.take (k + 1) := by
  intro s
  have e : held.take (k + 1) = held.take k ++ [r] := by
    rw [List.take_succ_eq_append_getElem hk, hr]
    simp [List.getD, hk]
  rw [e, List.mem_append, List.mem_singleton, ← h s]
  rcases hc with ⟨rfl, rfl⟩ | ⟨h1, h2, rfl, rfl⟩
  · constructor
    · exact fun h => .inl h
    · rintro (h | rfl)
      · exact h
      · exact ⟨x, hx, hn⟩
  · constructor
    · rintro ⟨y, hy, hys⟩
      rcases List.mem_append.1 hy with hy | hy
      · left
        refine ⟨y, hy, ?_⟩
        unfold upd at hys
        rwa [if_neg (fun e => h1 (by rw [← e]; exact hy))] at hys
      · right
        simp at hy
        subst hy
        rw [← hys, hn]
    · rintro (⟨y, hy, hys⟩ | rfl)
      · refine ⟨y, by simp [hy], ?_⟩
        unfold upd
        rw [if_neg (fun e => h1 (by rw [← e]; exact hy))]
        exact hys
      · exact ⟨x, hx, hn⟩

theorem len_more {bs bs' : List Nat} {nm nm' : Nat → ByteArray} {x : Nat} {r : ByteArray} (hc : (bs' = bs ∧ nm' = nm) ∨ (x ∉ bs ∧ (∀ y ∈ bs, nm y ≠ r) ∧ bs' = bs ++ [x] ∧ nm' = upd nm x r)) : bs'.length ≤ bs.length + 1 := by
  rcases hc with ⟨rfl, _⟩ | ⟨_, _, rfl, _⟩
  · omega
  · simp
theorem walkIs_n (base T : Nat) (fg : Int) (bs : List Nat) (nm : Nat → ByteArray) (fl : List Nat) (n : Nat) (a : Option Addr) (cap : Nat) (w : World) (hn : n = fl.length) (h : St base w T fg bs nm fl) (hs : SR w a n (fl.map nm)) :
    Calls Try.prog 17 #[.pointer (some ⟨T, 0, none⟩), .slice a n cap] w (BOut w) := by
  subst hn
  exact walkIs_any base T fg bs nm fl a cap w h hs
theorem del_snoc {l : List Nat} {x : Nat} (h : x ∉ l) : del (l ++ [x]) x = l := by
  have h1 := del_out l x h
  unfold del at h1 ⊢
  rw [List.filter_append, h1]
  simp
/-- Freeing what is held puts it last. -/
theorem free_again {bs l fl' : List Nat} {nm : Nat → ByteArray} {r : ByteArray} {x : Nat} (hap : ∀ x ∈ bs, ∀ y ∈ bs, nm x = nm y → x = y) (hsub : ∀ y ∈ l, y ∈ bs) (hx : x ∈ bs) (hn : nm x = r) (hl : x ∉ l)
    (hc : (fl' = l ∧ ((∀ x ∈ bs, nm x ≠ r) ∨ ∃ x ∈ l, nm x = r)) ∨ ∃ x ∈ bs, x ∉ l ∧ nm x = r ∧ fl' = l ++ [x]) : fl' = l ++ [x] := by
  rcases hc with ⟨_, hc | ⟨y, hy, e⟩⟩ | ⟨y, hy, _, e, rfl⟩
  · exact absurd hn (hc x hx)
  · have := hap y (hsub y hy) x hx (by rw [e, hn])
    exact absurd hy (by rw [this]; exact hl)
  · rw [hap y hy x hx (by rw [e, hn])]
/-- Holding what is known gives its own entry. -/
theorem hold_again {bs bs' : List Nat} {nm nm' : Nat → ByteArray} {r : ByteArray} {x x' : Nat} (hap : ∀ x ∈ bs, ∀ y ∈ bs, nm x = nm y → x = y) (hx : x ∈ bs) (hn : nm x = r) (hx' : x' ∈ bs') (hn' : nm' x' = r)
    (hc : (bs' = bs ∧ nm' = nm) ∨ (x' ∉ bs ∧ (∀ y ∈ bs, nm y ≠ r) ∧ bs' = bs ++ [x'] ∧ nm' = upd nm x' r)) : bs' = bs ∧ nm' = nm ∧ x' = x := by
  rcases hc with ⟨rfl, rfl⟩ | ⟨_, h, _⟩
  · exact ⟨rfl, rfl, hap x' hx' x hx (by rw [hn, hn'])⟩
  · exact absurd hn (h x hx)

theorem free_step {bs fl fl' : List Nat} {nm : Nat → ByteArray} {held freed : List ByteArray} {k : Nat} {u : ByteArray} (hk : k < freed.length) (hu : u = freed.getD k ByteArray.empty) (h : ∀ s, (∃ x ∈ bs, nm x = s) ↔ s ∈ held) (hap : ∀ x ∈ bs, ∀ y ∈ bs, nm x = nm y → x = y) (hsub : ∀ x ∈ fl, x ∈ bs) (hn : fl.map nm = l0m held (freed.take k))
    (hc : (fl' = fl ∧ ((∀ x ∈ bs, nm x ≠ u) ∨ ∃ x ∈ fl, nm x = u)) ∨ ∃ x ∈ bs, x ∉ fl ∧ nm x = u ∧ fl' = fl ++ [x]) : fl'.map nm = l0m held (freed.take (k + 1)) := by
  rw [l0m_take held freed hk, ← hu, ← hn]
  rcases hc with ⟨rfl, hc⟩ | ⟨x, hx, hxf, hxu, rfl⟩
  · rw [add1_no]
    rcases hc with hc | ⟨x, hx, rfl⟩
    · left
      intro hm
      obtain ⟨x, hx, e⟩ := (h u).2 hm
      exact hc x hx e
    · right
      exact List.mem_map_of_mem hx
  · rw [add1_yes]
    · simp [hxu]
    · exact (h u).1 ⟨x, hx, hxu⟩
    · intro hm
      obtain ⟨y, hy, e⟩ := List.mem_map.1 hm
      have := hap y (hsub y hy) x hx (by rw [e, hxu])
      exact hxf (by rw [← this]; exact hy)

set_option maxRecDepth 100000 in
set_option maxHeartbeats 4000000 in
/-- FnTokensFreeThenHoldRoundTrip returns true. -/
theorem trip (fg : Int) (a1 : Option Addr) (n1 c1 : Nat) (l1 : List ByteArray) (a2 : Option Addr) (n2 c2 : Nat) (l2 : List ByteArray) (r : ByteArray) (w : World) (h1 : SR w a1 n1 l1) (h2 : SR w a2 n2 l2) (z1 : ∀ s ∈ l1, s.size ≤ maxLen) (z2 : ∀ s ∈ l2, s.size ≤ maxLen) (z3 : r.size ≤ maxLen) :
    Calls Try.prog 4 #[.int .u64 fg, .slice a1 n1 c1, .slice a2 n2 c2, .string r] w fun e w' => e = .returned (.bool true) ∧ Below w.heap.size w w' := by
  have E1 : Hid (l1.length = n1) := h1.1
  have E2 : Hid (l2.length = n2) := h2.1
  have Z1 : Hid (∀ s ∈ l1, s.size ≤ maxLen) := z1
  have Z2 : Hid (∀ s ∈ l2, s.size ≤ maxLen) := z2
  have Z3 : Hid (r.size ≤ maxLen) := z3
  clear z1 z2 z3
  obtain ⟨i0, hi, hz0, hz1, hz2⟩ := info_parts info9
  go_enter Try.func4, Try.ntmps4
  go_wp2_with fail
  refine (zzBytes4_any fg a1 _ c1 l1 a2 _ c2 l2 r _ h1 h2).mono ?_
  rintro e wa ⟨rfl, b, rfl⟩
  cases b
  · go_wp2_with fail
    go_ret
    exact ⟨rfl, Below.refl _ _⟩
  by_cases hn1 : 4096 < n1
  · go_wp2_with fail
    go_ret
    exact ⟨rfl, Below.refl _ _⟩
  by_cases hn2 : 4096 < n2
  · go_wp2_with fail
    go_ret
    exact ⟨rfl, Below.refl _ _⟩
  by_cases hn3 : 4096 < r.size
  · go_wp2_with fail
    go_ret
    exact ⟨rfl, Below.refl _ _⟩
  go_wp2_with fail
  refine (stringBytes_any a1 _ c1 l1 _ h1).mono ?_
  rintro e wa ⟨hw, t1, rfl⟩
  have hw' := hw.symm
  subst hw'
  clear hw
  go_wp2_with fail
  refine (stringBytes_any a2 _ c2 l2 _ h2).mono ?_
  rintro e wb ⟨hw, t2, rfl⟩
  have hw' := hw.symm
  subst hw'
  clear hw
  go_wp2_with fail
  · go_ret
    exact ⟨rfl, Below.refl _ _⟩
  refine (clone_any a1 n1 c1 l1 _ h1 (by omega)).mono ?_
  rintro e w1 ⟨a3, rfl, s1, b1⟩
  rw [E1.out] at s1 ⊢
  go_wp2_with fail
  refine (clone_any a2 n2 c2 l2 _ (h2.below b1) (by omega)).mono ?_
  rintro e w2 ⟨a4, rfl, s2, b2⟩
  rw [E2.out] at s2 ⊢
  have s1 := s1.below b2
  have b2 : Below w.heap.size w w2 := b1.trans (b2.mono b1.size)
  clear b1 h1 h2
  go_wp2_with fail
  refine (newTokens_any fg _).mono ?_
  rintro e w3 ⟨rfl, rfl⟩
  have g3 := St.start w.heap.size fg w2 b2.size (fun _ => ByteArray.empty)
  have s1 := s1.below ((Below.refl _ _).alloc (Nat.le_refl _) (.cells (tokc (.map none) none none 0 fg) 44))
  have s2 := s2.below ((Below.refl _ _).alloc (Nat.le_refl _) (.cells (tokc (.map none) none none 0 fg) 44))
  have b3 := b2.alloc b2.size (.cells (tokc (.map none) none none 0 fg) 44)
  have hT : w2.heap.size < (w2.alloc (.cells (tokc (.map none) none none 0 fg) 44)).heap.size := by simp
  clear b2
  generalize w2.heap.size = T at g3 hT ⊢
  generalize w2.alloc (.cells (tokc (.map none) none none 0 fg) 44) = w3 at g3 s1 s2 b3 hT ⊢
  go_wp2_with fail
  go_loopw [10] (L1 w.heap.size fg T l1 w3) (fun i _ => n1 - (intOf i).toNat)
  case atStart => exact ⟨0, [], _, Nat.zero_le _, rfl, g3, Kp.refl _ _, by simp, by simp⟩
  case round =>
    obtain ⟨k, bs, nm, hk, rfl, g4, kp, hbl, hkn⟩ := hrel
    rw [E1.out] at hk
    have HKN : Hid (∀ s, (∃ x ∈ bs, nm x = s) ↔ s ∈ l1.take k) := hkn
    have s1' := s1.kp kp
    have s2' := s2.kp kp
    clear hkn
    by_cases hlt : k < n1
    · obtain ⟨a, c, ev, hsr, _⟩ := s1'.shape
      rw [E1.out] at ev hsr
      cases ev
      obtain ⟨b, o, rfl, _, hc⟩ := hsr.2.2 (by omega)
      have hck := hc k hlt
      obtain ⟨u, hu⟩ : ∃ u, u = l1.getD k ByteArray.empty := ⟨_, rfl⟩
      rw [← hu] at hck
      have HU : Hid (u = l1.getD k ByteArray.empty) := hu
      have HZ : Hid (u.size ≤ maxLen) := Z1.out u (by rw [hu]; exact getD_mem (by rw [E1.out]; exact hlt))
      have hbw : w.heap.size ≤ wr.heap.size := Nat.le_trans b3.size kp.size
      clear hc hu hsr s1'
      go_wp2_with fail
      refine (zzHold_any w.heap.size T fg bs nm [] u HZ.out _ g4 (by omega) hbw).mono ?_
      rintro e w5 ⟨x, bs', nm', rfl, g5, kp5, hx, hnx, hcs⟩
      have R : L1 w.heap.size fg T l1 w3 (.int .i64 ((k + 1 : Nat) : Int)) w5 := ⟨k + 1, bs', nm', by rw [E1.out]; omega, rfl, g5, kp.trans kp5, by have := len_more hcs; omega, known_step (by rw [E1.out]; exact hlt) HU.out HKN.out hx hnx hcs⟩
      clear g5 kp5 hx hnx hcs g4 kp
      go_wp2_with fail
      go_roundw
      case rel => exact R
      case measure => simp [intOf]; omega
    · obtain rfl : n1 = k := by omega
      have hkn : ∀ s, (∃ x ∈ bs, nm x = s) ↔ s ∈ l1 := by
        intro s
        have := HKN.out s
        rwa [List.take_of_length_le (Nat.le_of_eq E1.out)] at this
      have HK : Hid (∀ s, (∃ x ∈ bs, nm x = s) ↔ s ∈ l1) := hkn
      have b4 : Below w.heap.size w wr := b3.trans (kp.below b3.size)
      clear hkn HKN s1 s2 b3 g3 kp hT
      generalize wr = w4 at *
      go_wp2_with fail
      go_loopw [11] (L2 w.heap.size fg T bs nm l1 l2 w4) (fun i _ => n2 - (intOf i).toNat)
      case atStart => exact ⟨0, [], Nat.zero_le _, rfl, g4, Kp.refl _ _, rfl⟩
      case round =>
        obtain ⟨k2, fl, hk2, rfl, g5, kp, hnm⟩ := hrel
        rw [E2.out] at hk2
        have HN : Hid (fl.map nm = l0m l1 (l2.take k2)) := hnm
        have s1 := s1'.kp kp
        have s2 := s2'.kp kp
        clear hnm
        by_cases hlt2 : k2 < n2
        · obtain ⟨a, c, ev, hsr, _⟩ := s2.shape
          rw [E2.out] at ev hsr
          cases ev
          obtain ⟨b, o, rfl, _, hc⟩ := hsr.2.2 (by omega)
          have hck := hc k2 hlt2
          obtain ⟨u, hu⟩ : ∃ u, u = l2.getD k2 ByteArray.empty := ⟨_, rfl⟩
          rw [← hu] at hck
          have HU : Hid (u = l2.getD k2 ByteArray.empty) := hu
          have HZ : Hid (u.size ≤ maxLen) := Z2.out u (by rw [hu]; exact getD_mem (by rw [E2.out]; exact hlt2))
          clear hc hu hsr s1 s2 s1' s2'
          go_wp2_with fail
          refine (zzFree_any w.heap.size T fg bs nm fl u HZ.out _ g5).mono ?_
          rintro e w6 ⟨rfl, fl', g6, kp6, hcs⟩
          have R : L2 w.heap.size fg T bs nm l1 l2 w4 (.int .i64 ((k2 + 1 : Nat) : Int)) w6 := ⟨k2 + 1, fl', by rw [E2.out]; omega, rfl, g6, kp.trans kp6, free_step (by rw [E2.out]; exact hlt2) HU.out HK.out g5.apart g5.sub HN.out hcs⟩
          clear g6 kp6 hcs g5 kp g4
          go_wp2_with fail
          go_roundw
          case rel => exact R
          case measure => simp [intOf]; omega
        · obtain rfl : n2 = k2 := by omega
          have hnm : fl.map nm = l0m l1 l2 := by
            have := HN.out
            rwa [List.take_of_length_le (Nat.le_of_eq E2.out)] at this
          have HN' : Hid (fl.map nm = l0m l1 l2) := hnm
          have b5 : Below w.heap.size w wr := b4.trans (kp.below b4.size)
          clear hnm HN s1' s2' b4 g4 kp
          generalize wr = w5 at *
          go_wp2_with fail
          go_loopw [12, 13] (L3 l1 l2 w5) (fun _ i _ => n2 - (intOf i).toNat)
          case atStart => exact ⟨0, Nat.zero_le _, rfl, ⟨by simp [l0m], .inl ⟨rfl, by simp [l0m]⟩⟩, Below.refl _ _⟩
          case round =>
            obtain ⟨k3, hk3, rfl, hsl, bl⟩ := hrel
            rw [E2.out] at hk3
            have s1' := s1.below bl
            have s2' := s2.below bl
            by_cases hlt3 : k3 < n2
            · have HT := l0m_take l1 l2 (k := k3) (by rw [E2.out]; exact hlt3)
              have hll := l0m_len l1 l2 k3 (by rw [E2.out]; omega)
              generalize l0m l1 (l2.take k3) = acc at hsl HT hll
              obtain ⟨a, c, ev, hsr, _⟩ := s2'.shape
              rw [E2.out] at ev hsr
              cases ev
              obtain ⟨b, o, rfl, _, hc⟩ := hsr.2.2 (by omega)
              have hck := hc k3 hlt3
              obtain ⟨u, hu⟩ : ∃ u, u = l2.getD k3 ByteArray.empty := ⟨_, rfl⟩
              rw [← hu] at hck HT
              have HU : Hid (l0m l1 (l2.take (k3 + 1)) = add1 l1 acc u) := HT
              obtain ⟨a5, c5, ev, hsr1, _⟩ := s1'.shape
              rw [E1.out] at ev hsr1
              cases ev
              obtain ⟨a6, c6, rfl, hsr3, _⟩ := hsl.shape
              have HBK : Hid (∀ g, Value.ownBlock (.slice a6 acc.length c6) = some g → w5.heap.size ≤ g ∧ g < wr.heap.size) := hsl.blk
              have hown : wr.ownsRow w5.heap.size 9 1 (.slice a6 acc.length c6) acc.length (acc.map Value.string) := hsl
              have hsz := bl.size
              clear hc hu hsr s1 s2 s1' s2' HT
              go_wp2_with fail
              refine (indexOf_any a3 n1 n1 l1 u _ hsr1 (by omega)).mono ?_
              rintro e wx ⟨hw, hix⟩
              have hw' := hw.symm
              subst hw'
              clear hw
              rcases hix with ⟨rfl, hni⟩ | ⟨j, rfl, hj, hju⟩
              · have R := add1_no (acc := acc) (.inl hni)
                have HR : Hid (add1 l1 acc u = acc) := R
                clear R hni
                go_wp2_with fail
                go_roundw
                case rel => exact ⟨k3 + 1, by rw [E2.out]; omega, by go_num, by rw [HU.out, HR.out]; exact hsl, bl⟩
                case measure => simp [intOf]; omega
              · have HM : Hid (u ∈ l1) := by rw [← hju]; exact getD_mem hj
                clear hju hj
                go_wp2_with fail
                refine (indexOf_any a6 _ c6 acc u _ hsr3 (by omega)).mono ?_
                rintro e wx ⟨hw, hix⟩
                have hw' := hw.symm
                subst hw'
                clear hw
                rcases hix with ⟨rfl, hni⟩ | ⟨j', rfl, hj', hju'⟩
                · have R := add1_yes (held := l1) HM.out hni
                  have HR : Hid (add1 l1 acc u = acc ++ [u]) := R
                  clear R hni
                  go_wp2_with (at_builtin; refine wpList_append_own _ rfl _ _ 24 rfl w5.heap.size 9 i0 (.string ⟨#[]⟩) 1 16 Try.underlying24 hi hz0 hz1 hz2 rfl (by decide) _ _ _ rfl (hown.alloc _) ⟨wr.heap.size, 0, none⟩ 1 1 [.string u] rfl rfl (cell_one_new _ _ _) (by simp [Value.oneCell']) (by unfold maxLen; omega) (by omega) (by simp; omega) ?_)
                  intro v' w6 hown' hgrow _
                  have bl' := (bl.alloc hsz (.cells #[.string u] 9)).grown hgrow (by simp; omega) (fun j hj => (HBK.out j hj).1)
                  have hsl' : SL w6 w5.heap.size v' (acc ++ [u]) := by unfold SL; simpa using hown'
                  clear hown' hgrow hown
                  go_wp2_with fail
                  go_roundw
                  case rel => exact ⟨k3 + 1, by rw [E2.out]; omega, by go_num, by rw [HU.out, HR.out]; exact hsl', bl'⟩
                  case measure => simp [intOf]; omega
                · have R := add1_no (held := l1) (acc := acc) (s := u) (.inr (by rw [← hju']; exact getD_mem hj'))
                  have HR : Hid (add1 l1 acc u = acc) := R
                  clear R hju' hj'
                  go_wp2_with fail
                  go_roundw
                  case rel => exact ⟨k3 + 1, by rw [E2.out]; omega, by go_num, by rw [HU.out, HR.out]; exact hsl, bl⟩
                  case measure => simp [intOf]; omega
            · obtain rfl : n2 = k3 := by omega
              have g6 := g5.below bl
              have b6 := b5.trans (bl.mono b5.size)
              rw [List.take_of_length_le (Nat.le_of_eq E2.out), ← HN'.out] at hsl
              clear s1 s2 s1' s2' g5 bl b5 HN'
              generalize wr = w6 at *
              obtain ⟨a6, c6, rfl, hsr6, _⟩ := hsl.shape
              simp only [List.length_map] at hsl hsr6 ⊢
              have hlf : fl.length ≤ 100000 := by have := g6.flen; have := g6.len; omega
              go_wp2_with fail
              refine (walkIs_any w.heap.size T fg bs nm fl a6 c6 _ g6 hsr6).mono ?_
              rintro e w7 ⟨rfl, m7, rfl⟩
              have g7 := g6.drewN m7
              have s7 := hsl.drewN m7
              have b7 := below_drewN b6 m7
              clear g6 hsl b6 hsr6
              generalize w6.drewN m7 = w7 at *
              go_wp2_with fail
              refine (zzHold_any w.heap.size T fg bs nm fl r Z3.out _ g7 (by omega) b7.size).mono ?_
              rintro e w8 ⟨x, bs', nm', rfl, g8, kp8, hx, hnx, hcs⟩
              have hnames := hold_names g7 g8 hx hnx hcs
              have HNM : Hid ((del fl x).map nm' = wo (fl.map nm) r) := hnames
              have hl8 := len_more hcs
              have s8 := s7.kp kp8
              have b8 := b7.trans (kp8.below b7.size)
              have hent := hold_entry g8 hx
              rw [hnx] at hent
              have HX : Hid (x ∈ bs') := hx
              have HXN : Hid (nm' x = r) := hnx
              have HXO : Hid (x ∉ del fl x) := by intro h; rw [del_mem] at h; exact h.2 rfl
              clear g7 s7 b7 hnames hcs kp8 hx hnx
              go_wp2_with fail
              refine (heldEntry_any x r fg _ hent).mono ?_
              rintro e wx ⟨rfl, hw⟩
              have hw' := hw.symm
              subst hw'
              clear hw hent
              obtain ⟨a8, c8, ev, hsr8, _⟩ := s8.shape
              simp only [List.length_map] at ev hsr8
              cases ev
              go_wp2_with fail
              refine (without_any a6 fl.length c6 (fl.map nm) r _ hsr8 (by omega)).mono ?_
              rintro e w9 ⟨v1, rfl, s9, b9⟩
              rw [← HNM.out] at s9
              have g9 := g8.below b9
              have b9 := b8.trans (b9.mono b8.size)
              clear g8 b8 s8 hsr8 HNM
              obtain ⟨a9, c9, rfl, hsr9, _⟩ := s9.shape
              simp only [List.length_map] at hsr9 ⊢
              have hl9 : (del fl x).length ≤ 100000 := by have := g9.flen; have := g9.len; omega
              go_wp2_with fail
              refine (walkIs_any w.heap.size T fg bs' nm' (del fl x) a9 c9 _ g9 hsr9).mono ?_
              rintro e wx ⟨rfl, m9, rfl⟩
              have g10 := g9.drewN m9
              have s10 := s9.drewN m9
              have b10 := below_drewN b9 m9
              clear g9 s9 b9 hsr9
              generalize w9.drewN m9 = w10 at *
              go_wp2_with fail
              refine (zzFree_any w.heap.size T fg bs' nm' (del fl x) r Z3.out _ g10).mono ?_
              rintro e w11 ⟨rfl, fl2, g11, kp11, hcs⟩
              obtain rfl : fl2 = del fl x ++ [x] := free_again g10.apart g10.sub HX.out HXN.out HXO.out hcs
              have s11 := s10.kp kp11
              have b11 := b10.trans (kp11.below b10.size)
              clear g10 s10 b10 kp11 hcs
              obtain ⟨a11, c11, ev, hsr11, _⟩ := s11.shape
              simp only [List.length_map] at ev hsr11
              cases ev
              go_wp2_with fail
              refine (clone_any a9 _ c9 ((del fl x).map nm') _ hsr11 (by omega)).mono ?_
              rintro e w12 ⟨a12, rfl, s12, b12⟩
              simp only [List.length_map] at s12 ⊢
              have hown : w12.ownsRow w11.heap.size 9 1 (.slice a12 (del fl x).length (del fl x).length) (del fl x).length (((del fl x).map nm').map Value.string) := by
                have h := s12
                unfold SL at h
                rwa [List.length_map] at h
              have HBK : Hid (∀ g, Value.ownBlock (.slice a12 (del fl x).length (del fl x).length) = some g → w11.heap.size ≤ g ∧ g < w12.heap.size) := s12.blk
              have hsz := b12.size
              clear s12
              go_wp2_with (at_builtin; refine wpList_append_own _ rfl _ _ 24 rfl w11.heap.size 9 i0 (.string ⟨#[]⟩) 1 16 Try.underlying24 hi hz0 hz1 hz2 rfl (by decide) _ _ _ rfl (hown.alloc _) ⟨w12.heap.size, 0, none⟩ 1 1 [.string r] rfl rfl (cell_one_new _ _ _) (by simp [Value.oneCell']) (by unfold maxLen; omega) (by omega) (by simp; omega) ?_)
              intro v2 w13 hown' hgrow _
              have b13 := (b12.alloc hsz (.cells #[.string r] 9)).grown hgrow (by simp; omega) (fun j hj => (HBK.out j hj).1)
              have s13 : SL w13 w11.heap.size v2 ((del fl x ++ [x]).map nm') := by unfold SL; simpa [HXN.out] using hown'
              have g13 := g11.below b13
              have s13' := s11.below b13
              have b13 := b11.trans (b13.mono b11.size)
              clear hown' hgrow hown b12 b11 g11 s11 hsr11 hsz
              obtain ⟨a13, c13, rfl, hsr13, _⟩ := s13.shape
              simp only [List.length_map] at hsr13 ⊢
              go_wp2_with fail
              refine (walkIs_n w.heap.size T fg bs' nm' (del fl x ++ [x]) ((del fl x).length + 1) a13 c13 _ (by simp) g13 (by simpa using hsr13)).mono ?_
              rintro e wx ⟨rfl, m13, rfl⟩
              have g14 := g13.drewN m13
              have s14 := s13'.drewN m13
              have b14 := below_drewN b13 m13
              clear g13 s13 s13' b13 hsr13
              generalize w13.drewN m13 = w14 at *
              have c3 : w14.cell? ⟨x, 3, none⟩ = some (.bool true) := (g14.ents x HX.out).cell (i := 3) (by simp [ent])
              go_wp2_with fail
              refine (get_isFree x true _ c3).mono ?_
              rintro e wx ⟨rfl, rfl⟩
              clear c3
              go_wp2_with fail
              refine (zzHold_any w.heap.size T fg bs' nm' (del fl x ++ [x]) r Z3.out _ g14 (by omega) b14.size).mono ?_
              rintro e w15 ⟨x', bs2, nm2, rfl, g15, kp15, hx15, hnx15, hcs⟩
              obtain ⟨rfl, rfl, rfl⟩ : bs2 = bs' ∧ nm2 = nm' ∧ x' = x := hold_again g14.apart HX.out HXN.out hx15 hnx15 hcs
              have s15 := s14.kp kp15
              have b15 := b14.trans (kp15.below b14.size)
              have hent := hold_entry g15 HX.out
              rw [HXN.out] at hent
              rw [del_snoc HXO.out] at g15
              have qn : ∀ w, (binOp .neq 34 (.pointer (some ⟨x', 0, none⟩)) (.pointer (some ⟨x', 0, none⟩))).run Try.prog w = .ok (.bool false) w := ptr_neq (some x')
              clear g14 s14 b14 kp15 hcs hx15 hnx15
              go_wp2_with fail
              refine (heldEntry_any x' r fg _ hent).mono ?_
              rintro e wx ⟨rfl, hw⟩
              have hw' := hw.symm
              subst hw'
              clear hw hent qn
              obtain ⟨a15, c15, ev, hsr15, _⟩ := s15.shape
              simp only [List.length_map] at ev hsr15
              cases ev
              go_wp2_with fail
              refine (walkIs_any w.heap.size T fg bs2 nm2 (del fl x') a9 c9 _ g15 hsr15).mono ?_
              rintro e wx ⟨rfl, m15, rfl⟩
              go_wp2_with fail
              go_ret
              exact ⟨rfl, below_drewN b15 m15⟩
end Go.Proofs.Qxb6002789a.Tok
