/- The law FnTold is walked. -/
import Derived.Test.YtgaaehpmbkjhlaaGreatDoorWAre
import Derived.Test.YtgaaehpmbkjhlaaGreatDoorPlain
import Derived.Deep.QuietTactic
import Derived.BigQuiet
namespace Go.Proofs.YtgaaehpmbkjhlaaGreatDoor
open Go Go.RowKit

/-- What the loops of the law hold of a date: its seconds and 1, or 0 and 0. -/
def WantD (o : Option Cl) (x y : Value) : Prop := match o with
  | none => x = .int .i64 0 ∧ y = .int .i64 0
  | some c => x = .int .i64 c.v.n ∧ y = .int .i64 1
def WantT (o : Option Cl) (x : Value) : Prop := match o with
  | none => x = .string ByteArray.empty
  | some c => x = .string c.v.t

theorem WantD.step {cs : List Cl} {k : Nat} {s : ByteArray} {x y : Value} (hk : k < cs.length)
    (h : WantD (findC (cs.take k) s) x y) (hne : cs[k].name ≠ s) : WantD (findC (cs.take (k + 1)) s) x y := by
  rw [List.take_succ_eq_append_getElem hk]
  cases hf : findC (cs.take k) s with
  | none =>
    rw [findC_snoc _ _ _ hf, beqB_ne (fun e => hne e.symm)]
    rw [hf] at h
    exact h
  | some d =>
    rw [findC_snoc_some _ _ _ _ hf]
    rw [hf] at h
    exact h
theorem WantT.step {cs : List Cl} {k : Nat} {s : ByteArray} {x : Value} (hk : k < cs.length)
    (h : WantT (findC (cs.take k) s) x) (hne : cs[k].name ≠ s) : WantT (findC (cs.take (k + 1)) s) x := by
  rw [List.take_succ_eq_append_getElem hk]
  cases hf : findC (cs.take k) s with
  | none =>
    rw [findC_snoc _ _ _ hf, beqB_ne (fun e => hne e.symm)]
    rw [hf] at h
    exact h
  | some d =>
    rw [findC_snoc_some _ _ _ _ hf]
    rw [hf] at h
    exact h

theorem find_hit {cs : List Cl} {k : Nat} {s : ByteArray} (hk : k < cs.length) (hd : ∀ i j (h : i < cs.length) (h' : j < cs.length), j < i → cs[i].name ≠ cs[j].name) (he : cs[k].name = s) :
    findC (cs.take (k + 1)) s = some cs[k] := by
  rw [List.take_succ_eq_append_getElem hk, findC_snoc]
  · rw [he, beqB_self]; rfl
  · unfold findC
    rw [List.find?_eq_none]
    intro x hx
    obtain ⟨j, hj, rfl⟩ := List.mem_iff_getElem.1 hx
    rw [List.length_take] at hj
    rw [List.getElem_take]
    have := hd k j hk (by omega) (by omega)
    rw [he] at this
    exact fun h => this (eq_of_beqB h)

theorem owns_form {w : World} {base : Nat} {e : TypeId} {v : Value} {n : Nat} {xs : List Value} (h : w.ownsRow base e 1 v n xs) :
    ∃ A c, v = .slice A n c ∧ (n ≠ 0 → ∃ g, A = some ⟨g, 0, none⟩ ∧ g < w.heap.size ∧ ∀ j (h : j < xs.length), w.cell? ⟨g, j, none⟩ = some xs[j]) := by
  rcases h.2 with ⟨rfl, rfl⟩ | ⟨g, cap, cur, rfl, _, hh, _⟩
  · exact ⟨_, _, rfl, fun h => absurd rfl h⟩
  · refine ⟨_, _, rfl, fun _ => ⟨g, rfl, (Array.getElem?_eq_some_iff.1 hh).1, fun j hj => ?_⟩⟩
    have := h.cells (g := g) rfl j xs[j] (by simp [hj])
    rw [show ((⟨g, 0, none⟩ : Addr).add j) = ⟨g, j, none⟩ by unfold Addr.add; split <;> simp_all] at this
    exact this

set_option maxRecDepth 100000 in
set_option maxHeartbeats 4000000 in
theorem told_any (a : Option Addr) (b o n cap : Nat) (cs : List Cl) (w : World) (hm : CsAt w a n cs) (ha : n ≠ 0 → a = some ⟨b, o, none⟩) (hc : ∀ i (h : i < cs.length), ClAt w b (o + i * 5) cs[i]) (hcap : n ≤ cap) (hmax : cap ≤ maxLen) :
    Calls Tryz.prog 3 #[.slice a n cap] w (YesB true w) := by
  have hN := hm.1
  have HC := Lib.hid hc; clear hc
  have HM := Lib.hid hm; clear hm
  have HA := Lib.hid ha; clear ha
  have HCAP := Lib.hid hcap; clear hcap
  have HMAX := Lib.hid hmax
  unfold maxLen at hmax
  have hn63 : n ≤ 9223372036854775807 := by have := HCAP.out; omega
  clear hmax
  have HN := Lib.hid hN; clear hN
  go_enter Tryz.func3, Tryz.ntmps3
  go_wp2_with fail
  · go_ret
    exact ⟨rfl, Below.refl _ _⟩
  · refine (areClaims_tells a n cap cs w HM.out HCAP.out HMAX.out).mono ?_
    rintro e w1 ⟨r, rfl, hr, hb1⟩
    have HB1 := Lib.hid hb1; clear hb1
    cases r
    · go_wp2
      go_ret
      exact ⟨rfl, HB1.out⟩
    · have hv := hr rfl
      clear hr
      have hfine := valid_fine hv HM.out.lens
      have HV := Lib.hid hv; clear hv
      have HF := Lib.hid hfine; clear hfine
      go_wp2_with fail
      obtain ⟨B, hB⟩ : ∃ B, B = w1.heap.size := ⟨_, rfl⟩
      have c0 : (w1.alloc (.cells #[.string EXP, .string NBF, .string IAT] 9)).cell? ⟨w1.heap.size, 0, none⟩ = some (.string EXP) := by simp [go_sem]
      have c1 : (w1.alloc (.cells #[.string EXP, .string NBF, .string IAT] 9)).cell? ⟨w1.heap.size, 1, none⟩ = some (.string NBF) := by simp [go_sem]
      have c2 : (w1.alloc (.cells #[.string EXP, .string NBF, .string IAT] 9)).cell? ⟨w1.heap.size, 2, none⟩ = some (.string IAT) := by simp [go_sem]
      have hb2 : Below w.heap.size w (w1.alloc (.cells #[.string EXP, .string NBF, .string IAT] 9)) := HB1.out.alloc HB1.out.size _
      have hz2 : B < (w1.alloc (.cells #[.string EXP, .string NBF, .string IAT] 9)).heap.size := by rw [hB]; simp
      rw [← hB] at c0 c1 c2 ⊢
      clear hB
      generalize w1.alloc (.cells #[.string EXP, .string NBF, .string IAT] 9) = W2 at c0 c1 c2 hb2 hz2 ⊢
      have HB2 := Lib.hid hb2; clear hb2
      have HCS := Lib.hid (And.intro c0 (And.intro c1 c2)); clear c0 c1 c2
      go_loopw [30] (fun i wr => ∃ k : Nat, k ≤ 3 ∧ i = .int .i64 k ∧ Below W2.heap.size W2 wr) (fun i _ => 3 - (intOf i).toNat)
      case atStart => exact ⟨0, by omega, rfl, Below.refl _ _⟩
      case round =>
        obtain ⟨k, hk, rfl, hb3⟩ := hrel
        have HB3 := Lib.hid hb3; clear hb3
        by_cases hlt : k < 3
        · have hnm : ∃ nm, wr.cell? ⟨B, k, none⟩ = some (.string nm) ∧ (nm = EXP ∨ nm = NBF ∨ nm = IAT) := by
            obtain ⟨c0, c1, c2⟩ := HCS.out
            have hcell := fun i => HB3.out.cell (p := ⟨B, i, none⟩) hz2
            rcases k with _ | _ | _ | k
            · exact ⟨_, (hcell 0).trans c0, .inl rfl⟩
            · exact ⟨_, (hcell 1).trans c1, .inr (.inl rfl)⟩
            · exact ⟨_, (hcell 2).trans c2, .inr (.inr rfl)⟩
            · omega
          obtain ⟨nm, e0, hnm⟩ := hnm
          have HNM := Lib.hid hnm; clear hnm
          go_wp2_with fail
          obtain ⟨wo, hwo⟩ : ∃ wo : World, wo = wr := ⟨_, rfl⟩
          rw [← hwo] at e0 HB3 ⊢
          clear hwo e0
          have HBW := Lib.hid (HB2.out.trans (HB3.out.mono HB2.out.size))
          go_loopw [5, 6, 36] (fun x y i wq => ∃ j : Nat, j ≤ n ∧ i = .int .i64 j ∧ WantD (findC (cs.take j) nm) x y ∧ Below wo.heap.size wo wq) (fun _ _ i _ => n - (intOf i).toNat)
          case atStart => exact ⟨0, Nat.zero_le _, rfl, ⟨rfl, rfl⟩, Below.refl _ _⟩
          case round =>
            obtain ⟨j, hj, rfl, hwant, hb4⟩ := hrel
            have HB4 := Lib.hid hb4; clear hb4
            have HW := Lib.hid hwant; clear hwant
            by_cases hjl : j < n
            · have hj' : j < cs.length := by rw [HN.out]; exact hjl
              have hv := (HC.out j hj').below (HBW.out.trans (HB4.out.mono HBW.out.size))
              have ha := HA.out (by omega)
              subst ha
              by_cases heq : cs[j].name = nm
              · have HH := Lib.hid (find_hit hj' HF.out.d heq)
                have HNEXT : ∀ c : Cl, c = cs[j] → Hid (WantD (findC (cs.take (j + 1)) nm) (.int .i64 c.v.n) (.int .i64 1)) := fun c hc => by rw [HH.out, hc]; exact ⟨rfl, rfl⟩
                obtain ⟨x, hx⟩ : ∃ x, x = cs[j] := ⟨_, rfl⟩
                have HNX := HNEXT x hx
                rw [← hx] at hv heq
                clear hx HH HNEXT
                obtain ⟨xm, ⟨xk, xt, xn, xa, xl, xc⟩, xs⟩ := x
                obtain ⟨v0, v1, v2, v3, v4, vb, vf, vn, vl⟩ := hv
                simp only at v0 v1 v2 v3 v4 heq HNX
                clear vf vn vl
                subst heq
                go_wp2
                exact ⟨⟨j + 1, by omega, by go_num, HNX, HB4.out.alloc HB4.out.size _⟩, by simp [intOf]; omega⟩
              · have HNX := Lib.hid (HW.out.step hj' heq)
                obtain ⟨x, hx⟩ : ∃ x, x = cs[j] := ⟨_, rfl⟩
                rw [← hx] at hv heq
                clear hx
                obtain ⟨xm, ⟨xk, xt, xn, xa, xl, xc⟩, xs⟩ := x
                obtain ⟨v0, v1, v2, v3, v4, vb, vf, vn, vl⟩ := hv
                simp only at v0 v1 v2 v3 v4 heq
                clear vf vn vl
                have hne' : (xm.toList == nm.toList) = false := by rw [← beq_toListBytes]; exact beqB_ne heq
                clear heq
                go_wp2
                exact ⟨⟨j + 1, by omega, by go_num, HNX.out, HB4.out.alloc HB4.out.size _⟩, by simp [intOf]; omega⟩
            · obtain rfl : j = n := by omega
              have hw := HW.out
              rw [List.take_of_length_le (by rw [HN.out]; omega)] at hw
              clear HW
              have HMB := Lib.hid (HM.out.below (HBW.out.trans (HB4.out.mono HBW.out.size)))
              cases hf : findC cs nm with
              | none =>
                rw [hf] at hw
                obtain ⟨rfl, rfl⟩ := hw
                have HFN := Lib.hid hf; clear hf
                go_wp2_with fail
                refine (date_none a j cap cs wr HMB.out HF.out nm HNM.out HFN.out).mono ?_
                rintro e w5 ⟨rfl, hb5⟩
                have HB5 := Lib.hid (HB3.out.trans ((HB4.out.trans (hb5.mono HB4.out.size)).mono HB3.out.size)); clear hb5
                go_wp2
                exact ⟨⟨k + 1, by omega, by go_num, HB5.out⟩, by simp [intOf]; omega⟩
              | some c =>
                rw [hf] at hw
                obtain ⟨rfl, rfl⟩ := hw
                obtain ⟨hmem, hname⟩ := findC_mem hf
                obtain ⟨dk, d1, d2⟩ := ok_date (valid_ok HV.out hmem) (by rw [hname]; exact HNM.out)
                obtain ⟨q, hq⟩ : ∃ q : Nat, c.v.n = (q : Int) := ⟨c.v.n.toNat, by omega⟩
                have HD := Lib.hid (date_yes a j cap cs wr HMB.out HF.out nm HNM.out c q hf dk hq (by omega) (by omega))
                rw [hq]
                clear hf hmem hname dk d1 d2 hq
                go_wp2_with fail
                refine HD.out.mono ?_
                rintro e w5 ⟨rfl, hb5⟩
                have HB5 := Lib.hid (HB3.out.trans ((HB4.out.trans (hb5.mono HB4.out.size)).mono HB3.out.size)); clear hb5
                go_wp2
                exact ⟨⟨k + 1, by omega, by go_num, HB5.out⟩, by simp [intOf]; omega⟩
        · have HBX := Lib.hid (HB2.out.trans (HB3.out.mono HB2.out.size))
          go_wp2_with fail
          clear HCS HB3 HB2 hz2
          obtain ⟨B', hB'⟩ : ∃ B', B' = wr.heap.size := ⟨_, rfl⟩
          have c0 : (wr.alloc (.cells #[.string ISS, .string SUB] 9)).cell? ⟨wr.heap.size, 0, none⟩ = some (.string ISS) := by simp [go_sem]
          have c1 : (wr.alloc (.cells #[.string ISS, .string SUB] 9)).cell? ⟨wr.heap.size, 1, none⟩ = some (.string SUB) := by simp [go_sem]
          have hb2 : Below w.heap.size w (wr.alloc (.cells #[.string ISS, .string SUB] 9)) := HBX.out.alloc HBX.out.size _
          have hz2 : B' < (wr.alloc (.cells #[.string ISS, .string SUB] 9)).heap.size := by rw [hB']; simp
          rw [← hB'] at c0 c1 ⊢
          clear hB'
          generalize wr.alloc (.cells #[.string ISS, .string SUB] 9) = W3 at c0 c1 hb2 hz2 ⊢
          have HB2 := Lib.hid hb2; clear hb2
          have HCS := Lib.hid (And.intro c0 c1); clear c0 c1
          go_loopw [65] (fun i wr => ∃ k : Nat, k ≤ 2 ∧ i = .int .i64 k ∧ Below W3.heap.size W3 wr) (fun i _ => 2 - (intOf i).toNat)
          case atStart => exact ⟨0, by omega, rfl, Below.refl _ _⟩
          case round =>
            obtain ⟨k, hk, rfl, hb3⟩ := hrel
            have HB3 := Lib.hid hb3; clear hb3
            by_cases hlt : k < 2
            · have hnm : ∃ nm, wr.cell? ⟨B', k, none⟩ = some (.string nm) ∧ (nm = ISS ∨ nm = SUB) := by
                obtain ⟨c0, c1⟩ := HCS.out
                have hcell := fun i => HB3.out.cell (p := ⟨B', i, none⟩) hz2
                rcases k with _ | _ | k
                · exact ⟨_, (hcell 0).trans c0, .inl rfl⟩
                · exact ⟨_, (hcell 1).trans c1, .inr rfl⟩
                · omega
              obtain ⟨nm, e0, hnm⟩ := hnm
              have HNM := Lib.hid hnm; clear hnm
              go_wp2_with fail
              obtain ⟨wo, hwo⟩ : ∃ wo : World, wo = wr := ⟨_, rfl⟩
              rw [← hwo] at e0 HB3 ⊢
              clear hwo e0
              have HBW := Lib.hid (HB2.out.trans (HB3.out.mono HB2.out.size))
              go_loopw [13, 71] (fun x i wq => ∃ j : Nat, j ≤ n ∧ i = .int .i64 j ∧ WantT (findC (cs.take j) nm) x ∧ Below wo.heap.size wo wq) (fun _ i _ => n - (intOf i).toNat)
              case atStart => exact ⟨0, Nat.zero_le _, rfl, rfl, Below.refl _ _⟩
              case round =>
                obtain ⟨j, hj, rfl, hwant, hb4⟩ := hrel
                have HB4 := Lib.hid hb4; clear hb4
                have HW := Lib.hid hwant; clear hwant
                by_cases hjl : j < n
                · have hj' : j < cs.length := by rw [HN.out]; exact hjl
                  have hv := (HC.out j hj').below (HBW.out.trans (HB4.out.mono HBW.out.size))
                  have ha := HA.out (by omega)
                  subst ha
                  by_cases heq : cs[j].name = nm
                  · have HH := Lib.hid (find_hit hj' HF.out.d heq)
                    have HNEXT : ∀ c : Cl, c = cs[j] → Hid (WantT (findC (cs.take (j + 1)) nm) (.string c.v.t)) := fun c hc => by rw [HH.out, hc]; exact rfl
                    obtain ⟨x, hx⟩ : ∃ x, x = cs[j] := ⟨_, rfl⟩
                    have HNX := HNEXT x hx
                    rw [← hx] at hv heq
                    clear hx HH HNEXT
                    obtain ⟨xm, ⟨xk, xt, xn, xa, xl, xc⟩, xs⟩ := x
                    obtain ⟨v0, v1, v2, v3, v4, vb, vf, vn, vl⟩ := hv
                    simp only at v0 v1 v2 v3 v4 heq HNX
                    clear vf vn vl
                    subst heq
                    go_wp2
                    exact ⟨⟨j + 1, by omega, by go_num, HNX, HB4.out.alloc HB4.out.size _⟩, by simp [intOf]; omega⟩
                  · have HNX := Lib.hid (HW.out.step hj' heq)
                    obtain ⟨x, hx⟩ : ∃ x, x = cs[j] := ⟨_, rfl⟩
                    rw [← hx] at hv heq
                    clear hx
                    obtain ⟨xm, ⟨xk, xt, xn, xa, xl, xc⟩, xs⟩ := x
                    obtain ⟨v0, v1, v2, v3, v4, vb, vf, vn, vl⟩ := hv
                    simp only at v0 v1 v2 v3 v4 heq
                    clear vf vn vl
                    have hne' : (xm.toList == nm.toList) = false := by rw [← beq_toListBytes]; exact beqB_ne heq
                    clear heq
                    go_wp2
                    exact ⟨⟨j + 1, by omega, by go_num, HNX.out, HB4.out.alloc HB4.out.size _⟩, by simp [intOf]; omega⟩
                · obtain rfl : j = n := by omega
                  have hw := HW.out
                  rw [List.take_of_length_le (by rw [HN.out]; omega)] at hw
                  clear HW
                  have HMB := Lib.hid (HM.out.below (HBW.out.trans (HB4.out.mono HBW.out.size)))
                  cases hf : findC cs nm with
                  | none =>
                    rw [hf] at hw
                    obtain rfl := hw
                    have HFN := Lib.hid hf; clear hf
                    go_wp2_with fail
                    refine (textOf_none a j cap cs wr HMB.out HF.out nm HNM.out HFN.out).mono ?_
                    rintro e w5 ⟨rfl, hb5⟩
                    have HB5 := Lib.hid (HB3.out.trans ((HB4.out.trans (hb5.mono HB4.out.size)).mono HB3.out.size)); clear hb5
                    go_wp2
                    exact ⟨⟨k + 1, by omega, by go_num, HB5.out⟩, by simp [intOf]; omega⟩
                  | some c =>
                    rw [hf] at hw
                    obtain rfl := hw
                    obtain ⟨hmem, hname⟩ := findC_mem hf
                    have hk1 := (ok_text (valid_ok HV.out hmem) (by rw [hname]; exact HNM.out)).1
                    have HD := Lib.hid (textOf_yes a j cap cs wr HMB.out HF.out nm HNM.out c hf hk1)
                    clear hf hmem hname hk1
                    generalize c.v.t = tt at HD ⊢
                    go_wp2_with fail
                    refine HD.out.mono ?_
                    rintro e w5 ⟨rfl, hb5⟩
                    have HB5 := Lib.hid (HB3.out.trans ((HB4.out.trans (hb5.mono HB4.out.size)).mono HB3.out.size)); clear hb5
                    go_wp2
                    exact ⟨⟨k + 1, by omega, by go_num, HB5.out⟩, by simp [intOf]; omega⟩
            · have HBY := Lib.hid (HB2.out.trans (HB3.out.mono HB2.out.size))
              have HA2 := Lib.hid (aud_is HV.out HM.out.lens)
              generalize audOf cs = ss at HA2
              go_wp2_with fail
              refine (audienceOf_is a n cap cs ss _ (HM.out.below HBY.out) HF.out HA2.out).mono ?_
              rintro e w4 ⟨s1, rfl, ho1, hb4⟩
              have HB4 := Lib.hid (HBY.out.trans (hb4.mono HBY.out.size)); clear hb4
              have HO1 := Lib.hid (owns_mono ho1 HBY.out.size); clear ho1
              go_wp2_with fail
              refine (specAud_is a n cap cs ss _ (HM.out.below HB4.out) HF.out.d HA2.out).mono ?_
              rintro e w5 ⟨s2, rfl, ho2, hb5⟩
              have HB5 := Lib.hid (HB4.out.trans (hb5.mono HB4.out.size))
              have HO1' := Lib.hid (owns_below HO1.out hb5); clear hb5 HO1
              have HO2 := Lib.hid (owns_mono ho2 HB4.out.size); clear ho2
              obtain ⟨A1, c1, rfl, hf1⟩ := owns_form HO1'.out
              obtain ⟨A2, c2, rfl, hf2⟩ := owns_form HO2.out
              have hlen := HA2.out.len
              obtain ⟨m, hm⟩ : ∃ m, m = ss.length := ⟨_, rfl⟩
              rw [← hm] at hf1 hf2 hlen ⊢
              have HMM := Lib.hid hm; clear hm
              have HF1 := Lib.hid hf1; clear hf1
              have HF2 := Lib.hid hf2; clear hf2
              clear HO1' HO2 HA2
              go_wp2
              go_loopw [115] (fun i wr => ∃ j : Nat, j ≤ m ∧ i = .int .i64 j ∧ Below w5.heap.size w5 wr) (fun i _ => m - (intOf i).toNat)
              case atStart => exact ⟨0, Nat.zero_le _, rfl, Below.refl _ _⟩
              case round =>
                obtain ⟨j, hj, rfl, hb6⟩ := hrel
                have HB6 := Lib.hid hb6; clear hb6
                by_cases hjm : j < m
                · have hjs : j < ss.length := by rw [← HMM.out]; exact hjm
                  obtain ⟨g1, ha1, hg1, hc1⟩ := HF1.out (by omega)
                  obtain ⟨g2, ha2, hg2, hc2⟩ := HF2.out (by omega)
                  have k1 := (HB6.out.cell (p := ⟨g1, j, none⟩) hg1).trans (hc1 j (by simpa using hjs))
                  have k2 := (HB6.out.cell (p := ⟨g2, j, none⟩) hg2).trans (hc2 j (by simpa using hjs))
                  simp only [List.getElem_map] at k1 k2
                  generalize ss[j] = t at k1 k2
                  clear hc1 hc2 hjs
                  subst ha1 ha2
                  have i1 : (0 : Int) ≤ (j : Int) := by omega
                  have i2 : (j : Int) < (m : Int) := by omega
                  go_wp2
                  go_quiet (fail)
                  go_wp2
                  exact ⟨⟨j + 1, by omega, by go_num, below_drewN HB6.out _⟩, by simp [intOf]; omega⟩
                · go_wp2
                  go_ret
                  exact ⟨rfl, HB5.out.trans (HB6.out.mono HB5.out.size)⟩

/-- FnTold returns true. -/
theorem told (a : Option Addr) (n cap : Nat) (cs : List Cl) (w : World) (hm : CsAt w a n cs) (hcap : n ≤ cap) (hmax : cap ≤ maxLen) : Calls Tryz.prog 3 #[.slice a n cap] w (YesB true w) := by
  by_cases h0 : n = 0
  · exact told_any a 0 0 n cap cs w hm (fun h => absurd h0 h) (fun i hi => by have := hm.1; omega) hcap hmax
  · obtain ⟨b, o, ha, hc⟩ := hm.2.2 h0
    exact told_any a b o n cap cs w hm (fun _ => ha) hc hcap hmax
end Go.Proofs.YtgaaehpmbkjhlaaGreatDoor
