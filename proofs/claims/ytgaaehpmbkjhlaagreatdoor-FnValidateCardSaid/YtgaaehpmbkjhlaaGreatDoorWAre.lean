/- AreClaims tells right claims. -/
import Derived.Test.YtgaaehpmbkjhlaaGreatDoorMem
namespace Go.Proofs.YtgaaehpmbkjhlaaGreatDoor
open Go Go.RowKit

set_option maxRecDepth 100000 in
set_option maxHeartbeats 1000000 in
theorem areClaims_some (b o n cap : Nat) (cs : List Cl) (w : World) (hn : cs.length = n) (hcap : n ≤ cap) (hmax : cap ≤ maxLen)
    (hm : ∀ i (h : i < cs.length), ClAt w b (o + i * 5) cs[i]) : Calls Tryz.prog 6 #[.slice (some ⟨b, o, none⟩) n cap] w (Tells (Valid cs) w) := by
  unfold maxLen at hmax
  have HM := Lib.hid hm; clear hm
  have HN := Lib.hid hn; clear hn
  go_enter Tryz.func6, Tryz.ntmps6
  go_wp2
  go_loopw [12] (fun i wr => ∃ k : Nat, k ≤ n ∧ i = .int .i64 k ∧ OkTo cs k ∧ Below w.heap.size w wr) (fun i _ => n - (intOf i).toNat)
  case atStart => exact ⟨0, Nat.zero_le _, rfl, OkTo.zero cs, Below.refl _ _⟩
  case round =>
    obtain ⟨k, hk, rfl, hok, hb⟩ := hrel
    by_cases hlt : k < n
    · have hk' : k < cs.length := by rw [HN.out]; exact hlt
      have hcl : ClAt wr b (o + k * 5) cs[k] := (HM.out k hk').below hb
      obtain ⟨c, hc⟩ : ∃ c, c = cs[k] := ⟨_, rfl⟩
      rw [← hc] at hcl
      have HC := Lib.hid hc; clear hc
      obtain ⟨nm, ⟨vk, vt, vn, la, ln, lc⟩, xs⟩ := c
      obtain ⟨e0, e1, e2, e3, e4, hblk, hfits, hname, hlist⟩ := hcl
      simp only at e0 e1 e2 e3 e4
      have HOK := Lib.hid hok; clear hok
      have HL := Lib.hid hlist; clear hlist
      have HF := Lib.hid hfits; clear hfits
      have HB := Lib.hid hb; clear hb
      go_wp2
      obtain ⟨wo, hwo⟩ : ∃ wo : World, wo = wr := ⟨_, rfl⟩
      rw [← hwo] at e0 e1 e2 e3 e4 hblk HL HB ⊢
      clear hwo
      obtain ⟨W1, hW1⟩ : ∃ W1 : World, W1 = wo.alloc (.cells #[.string nm, .int .i64 vk, .string vt, .int .i64 vn, .slice la ln lc] 29) := ⟨_, rfl⟩
      rw [← hW1]
      have hz1 : W1.heap.size = wo.heap.size + 1 := by rw [hW1]; simp
      have f0 : W1.cell? ⟨wo.heap.size, 0, none⟩ = some (.string nm) := by rw [hW1]; simp [go_sem]
      have f1 : W1.cell? ⟨wo.heap.size, 1, none⟩ = some (.int .i64 vk) := by rw [hW1]; simp [go_sem]
      have f2 : W1.cell? ⟨wo.heap.size, 2, none⟩ = some (.string vt) := by rw [hW1]; simp [go_sem]
      have f3 : W1.cell? ⟨wo.heap.size, 3, none⟩ = some (.int .i64 vn) := by rw [hW1]; simp [go_sem]
      have f4 : W1.cell? ⟨wo.heap.size, 4, none⟩ = some (.slice la ln lc) := by rw [hW1]; simp [go_sem]
      have hb1 : Below w.heap.size w W1 := by rw [hW1]; exact HB.out.alloc HB.out.size _
      have F := Lib.hid (And.intro hz1 (And.intro f0 (And.intro f1 (And.intro f2 (And.intro f3 (And.intro f4 (And.intro hb1 (show Below wo.heap.size wo W1 by rw [hW1]; exact below1 _ _))))))))
      clear hz1 f0 f1 f2 f3 f4 hb1 hW1 e0 e1 e2 e3 e4
      go_loopw [21] (fun j wq => ∃ m : Nat, m ≤ k ∧ j = .int .i64 m ∧ (∀ j' (h : j' < cs.length), j' < m → nm ≠ cs[j'].name) ∧ Below W1.heap.size W1 wq) (fun j _ => k - (intOf j).toNat)
      case atStart => exact ⟨0, Nat.zero_le _, rfl, fun _ _ h => by omega, Below.refl _ _⟩
      case round =>
        obtain ⟨m, hmk, rfl, hne, hbq⟩ := hrel
        obtain ⟨hz1, f0, f1, f2, f3, f4, hb1, hbo⟩ := F.out
        have g0 := (hbq.cell (p := ⟨wo.heap.size, 0, none⟩) (by simp only; omega)).trans f0
        have g1 := (hbq.cell (p := ⟨wo.heap.size, 1, none⟩) (by simp only; omega)).trans f1
        have g2 := (hbq.cell (p := ⟨wo.heap.size, 2, none⟩) (by simp only; omega)).trans f2
        have g3 := (hbq.cell (p := ⟨wo.heap.size, 3, none⟩) (by simp only; omega)).trans f3
        have g4 := (hbq.cell (p := ⟨wo.heap.size, 4, none⟩) (by simp only; omega)).trans f4
        have hzq : wo.heap.size < wr.heap.size := by have := hbq.size; omega
        have hbw : Below w.heap.size w wr := hb1.trans (hbq.mono (by have := HB.out.size; omega))
        have HBO := Lib.hid (hbo.trans (hbq.mono (by omega))); clear hbo
        clear hz1 f0 f1 f2 f3 f4 hb1
        have HNE := Lib.hid hne; clear hne
        have HBQ := Lib.hid hbq; clear hbq
        have HBW := Lib.hid hbw; clear hbw
        by_cases hmlt : m < k
        · have hm' : m < cs.length := by omega
          have hdl : ClAt wr b (o + m * 5) cs[m] := (HM.out m hm').below HBW.out
          obtain ⟨d, hd⟩ : ∃ d, d = cs[m] := ⟨_, rfl⟩
          rw [← hd] at hdl
          have HD := Lib.hid hd; clear hd
          obtain ⟨dm, ⟨dk, dt, dn, da, dl, dc⟩, ds⟩ := d
          obtain ⟨e0, e1, e2, e3, e4, hblk', hfits', hname', hlist'⟩ := hdl
          simp only at e0 e1 e2 e3 e4
          clear hfits' hlist'
          go_wp2
          · go_ret
            exact Tells.no (HBW.out.alloc HBW.out.size _)
          · refine ⟨⟨m + 1, by omega, by go_num, fun j' hj' hlt' => ?_, HBQ.out.alloc HBQ.out.size _⟩, by simp [intOf]; omega⟩
            rcases Nat.lt_or_ge j' m with h1 | h1
            · exact HNE.out j' hj' h1
            · obtain rfl : j' = m := by omega
              rw [← HD.out]
              exact ne_of_lists (by assumption)
        · obtain rfl : m = k := by omega
          clear hmk hmlt
          have hvt : vt.size ≤ maxLen := HF.out.t
          have HVT := Lib.hid hvt; clear hvt
          have HS := Lib.hid (show OkC cs[m] → OkTo cs (m + 1) from fun h => HOK.out.succ hk' h (fun j' h' hlt' => by rw [← HC.out]; exact HNE.out j' h' hlt'))
          rw [← HC.out] at HS
          rcases name_cases nm with hx | hx | hx | hx | hx | hx | hx
          · subst hx
            go_wp2
            · go_ret
              exact Tells.no (HBW.out.alloc HBW.out.size _)
            · refine ⟨⟨m + 1, by omega, by go_num, HS.out (.date (.inl rfl) (show vk = 2 by assumption) (by assumption) (by assumption) (size_of_nil (by assumption)) (by simp only; omega)), HBW.out.alloc HBW.out.size _⟩, by simp [intOf]; omega⟩
            all_goals (go_ret; exact Tells.no (HBW.out.alloc HBW.out.size _))
          · subst hx
            go_wp2
            · go_ret
              exact Tells.no (HBW.out.alloc HBW.out.size _)
            · refine ⟨⟨m + 1, by omega, by go_num, HS.out (.date (.inr (.inl rfl)) (show vk = 2 by assumption) (by assumption) (by assumption) (size_of_nil (by assumption)) (by simp only; omega)), HBW.out.alloc HBW.out.size _⟩, by simp [intOf]; omega⟩
            all_goals (go_ret; exact Tells.no (HBW.out.alloc HBW.out.size _))
          · subst hx
            go_wp2
            · go_ret
              exact Tells.no (HBW.out.alloc HBW.out.size _)
            · refine ⟨⟨m + 1, by omega, by go_num, HS.out (.date (.inr (.inr rfl)) (show vk = 2 by assumption) (by assumption) (by assumption) (size_of_nil (by assumption)) (by simp only; omega)), HBW.out.alloc HBW.out.size _⟩, by simp [intOf]; omega⟩
            all_goals (go_ret; exact Tells.no (HBW.out.alloc HBW.out.size _))
          · subst hx
            go_wp2_with fail
            refine (isTextValue_tells ⟨vk, vt, vn, la, ln, lc⟩ _ HVT.out).mono ?_
            rintro e w' ⟨r, rfl, hr, hb'⟩
            have HBE := Lib.hid (HBW.out.trans ((Below.alloc (Below.refl _ _) (Nat.le_refl _) _).trans (hb'.mono (by simp)) |>.mono (by have := HBW.out.size; omega)))
            have HR := Lib.hid hr; clear hr
            have HB' := Lib.hid hb'; clear hb'
            cases r
            · go_wp2
              go_ret
              exact Tells.no HBE.out
            · go_wp2
              refine ⟨⟨m + 1, by omega, by go_num, HS.out (.text (.inl rfl) (HR.out trivial)), HBE.out⟩, by simp [intOf]; omega⟩
          · subst hx
            go_wp2_with fail
            refine (isTextValue_tells ⟨vk, vt, vn, la, ln, lc⟩ _ HVT.out).mono ?_
            rintro e w' ⟨r, rfl, hr, hb'⟩
            have HBE := Lib.hid (HBW.out.trans ((Below.alloc (Below.refl _ _) (Nat.le_refl _) _).trans (hb'.mono (by simp)) |>.mono (by have := HBW.out.size; omega)))
            have HR := Lib.hid hr; clear hr
            have HB' := Lib.hid hb'; clear hb'
            cases r
            · go_wp2
              go_ret
              exact Tells.no HBE.out
            · go_wp2
              refine ⟨⟨m + 1, by omega, by go_num, HS.out (.text (.inr rfl) (HR.out trivial)), HBE.out⟩, by simp [intOf]; omega⟩
          · subst hx
            go_wp2_with fail
            refine (isTextValue_tells ⟨vk, vt, vn, la, ln, lc⟩ _ HVT.out).mono ?_
            rintro e w' ⟨r, rfl, hr, hb'⟩
            have HBE := Lib.hid (HBW.out.trans ((Below.alloc (Below.refl _ _) (Nat.le_refl _) _).trans (hb'.mono (by simp)) |>.mono (by have := HBW.out.size; omega)))
            have k0 := (hb'.cell (p := ⟨wr.heap.size, 0, none⟩) (by simp)).trans (show _ = some (Value.int .i64 vk) by simp [go_sem])
            have k1 := (hb'.cell (p := ⟨wr.heap.size, 1, none⟩) (by simp)).trans (show _ = some (Value.string vt) by simp [go_sem])
            have k2 := (hb'.cell (p := ⟨wr.heap.size, 2, none⟩) (by simp)).trans (show _ = some (Value.int .i64 vn) by simp [go_sem])
            have k3 := (hb'.cell (p := ⟨wr.heap.size, 3, none⟩) (by simp)).trans (show _ = some (Value.slice la ln lc) by simp [go_sem])
            have HR := Lib.hid hr; clear hr
            have HB' := Lib.hid hb'; clear hb'
            cases r
            · by_cases hl0 : ln = 0
              · subst hl0
                go_wp2
                all_goals (go_ret; exact Tells.no HBE.out)
              · obtain ⟨hxl, hxf, hxa⟩ := HL.out
                obtain ⟨lb, lo, hla, hxc⟩ := hxa hl0
                subst hla
                have HXC := Lib.hid hxc; clear hxc hxa
                have HXF := Lib.hid hxf; clear hxf
                have HXL := Lib.hid hxl; clear hxl
                have HBO' := Lib.hid (HBO.out.trans ((Below.alloc (Below.refl _ _) (Nat.le_refl _) _).trans (HB'.out.mono (by simp)) |>.mono (by omega)))
                go_wp2
                rotate_left
                · go_loopw [104] (fun j wq => ∃ p : Nat, p ≤ ln ∧ j = .int .i64 p ∧ (∀ i (h : i < xs.length), i < p → IsTextV xs[i]) ∧ Below w'.heap.size w' wq) (fun j _ => ln - (intOf j).toNat)
                  case atStart => exact ⟨0, Nat.zero_le _, rfl, fun _ _ h => by omega, Below.refl _ _⟩
                  case round =>
                    obtain ⟨p, hp, rfl, hall, hbp⟩ := hrel
                    have HALL := Lib.hid hall; clear hall
                    have HBP := Lib.hid hbp; clear hbp
                    by_cases hpl : p < ln
                    · have hpx : p < xs.length := by rw [HXL.out]; exact hpl
                      have hv := (HXC.out p hpx).below (HBO'.out.trans (HBP.out.mono (HBO'.out.size)))
                      have hfx := HXF.out _ (List.getElem_mem hpx)
                      obtain ⟨x, hx⟩ : ∃ x, x = xs[p] := ⟨_, rfl⟩
                      rw [← hx] at hv hfx
                      have HX := Lib.hid hx; clear hx
                      obtain ⟨xk, xt, xn, xa, xl, xc⟩ := x
                      obtain ⟨v0, v1, v2, v3, vb⟩ := hv
                      simp only at v0 v1 v2 v3
                      have HXT := Lib.hid hfx.t; clear hfx
                      go_wp2_with fail
                      refine (isTextValue_tells ⟨xk, xt, xn, xa, xl, xc⟩ _ HXT.out).mono ?_
                      rintro e w2 ⟨r, rfl, hr, hb2⟩
                      have HR2 := Lib.hid hr; clear hr
                      have HB2 := Lib.hid hb2; clear hb2
                      have HBX := Lib.hid (HBP.out.trans ((Below.alloc (Below.refl _ _) (Nat.le_refl _) _).trans (HB2.out.mono (by simp)) |>.mono HBP.out.size))
                      cases r
                      · go_wp2
                        go_ret
                        exact Tells.no (HBE.out.trans (HBX.out.mono HBE.out.size))
                      · go_wp2
                        refine ⟨⟨p + 1, by omega, by go_num, fun i hi hip => ?_, HBX.out⟩, by simp [intOf]; omega⟩
                        rcases Nat.lt_or_ge i p with h1 | h1
                        · exact HALL.out i hi h1
                        · obtain rfl : i = p := by omega
                          rw [← HX.out]
                          exact HR2.out trivial
                    · have hpl' : p = ln := by omega
                      have HPL := Lib.hid hpl'; clear hpl'
                      go_wp2
                      have hh : 1 ≤ (ln : Int) ∧ (ln : Int) ≤ 10 := by assumption
                      refine ⟨⟨m + 1, by omega, by go_num, HS.out (.aud rfl (show vk = 4 by assumption) (size_of_nil (by assumption)) (show vn = 0 by assumption) (by simp only; omega) (by simp only; omega) (fun x hx => ?_)), HBE.out.trans (HBP.out.mono HBE.out.size)⟩, by simp [intOf]; omega⟩
                      obtain ⟨i, hi, rfl⟩ := List.mem_iff_getElem.1 hx
                      have e1 := HXL.out
                      have e2 := HPL.out
                      simp only at hi
                      exact HALL.out i hi (by omega)
                all_goals (go_ret; exact Tells.no HBE.out)
            · obtain ⟨ik, it, iN, il⟩ := HR.out rfl
              simp only at il
              subst il
              go_wp2
              refine wp_loop_rounds 1 ?_
              rw [rounds_succ]
              go_wp2
              refine ⟨⟨m + 1, by omega, by go_num, HS.out (.aud1 rfl (HR.out trivial)), HBE.out⟩, by simp [intOf]; omega⟩
          · obtain ⟨n1, n2, n3, n4, n5, n6⟩ := hx
            go_wp2
            go_ret
            exact Tells.no (HBW.out.alloc HBW.out.size _)
    · go_wp2
      go_ret
      obtain rfl : k = n := by omega
      refine Tells.yes (fun _ => ?_) hb
      have := hok
      rw [← HN.out] at this
      exact this

theorem areClaims_none (a : Option Addr) (cap : Nat) (w : World) : Calls Tryz.prog 6 #[.slice a 0 cap] w (Tells (Valid []) w) := by
  go_enter Tryz.func6, Tryz.ntmps6
  go_wp2
  refine wp_loop_rounds 1 ?_
  rw [rounds_succ]
  go_wp2
  go_ret
  exact Tells.yes (fun _ => OkTo.zero _) (Below.refl _ _)

/-- What AreClaims tells. -/
theorem areClaims_tells (a : Option Addr) (n cap : Nat) (cs : List Cl) (w : World) (hm : CsAt w a n cs) (hcap : n ≤ cap) (hmax : cap ≤ maxLen) :
    Calls Tryz.prog 6 #[.slice a n cap] w (Tells (Valid cs) w) := by
  obtain ⟨hl, _, hs⟩ := hm
  by_cases h0 : n = 0
  · subst h0
    obtain rfl := List.eq_nil_of_length_eq_zero hl
    exact areClaims_none a cap w
  · obtain ⟨b, o, rfl, hc⟩ := hs h0
    exact areClaims_some b o n cap cs w hl hcap hmax hc
end Go.Proofs.YtgaaehpmbkjhlaaGreatDoor
