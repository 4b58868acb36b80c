/- The law FnValidate is walked. -/
import Derived.Test.YtgaaehpmbkjhlaaGreatDoorWChecks
import Derived.Test.YtgaaehpmbkjhlaaGreatDoorWWrong
import Derived.Test.YtgaaehpmbkjhlaaGreatDoorWAre
import Derived.Test.YtgaaehpmbkjhlaaGreatDoorWSame
import Derived.Deep.RegionHeld3
import Derived.Deep.DrawnRows
namespace Go.Proofs.YtgaaehpmbkjhlaaGreatDoor
open Go Go.RowKit
attribute [local go_sem ↓] Go.wp_at_zero Go.wp_at_succ

/-- The settings and the claim of the law's own example: a date that is past. -/
def lateS : St := ⟨2, 0, none, 0, 0, [], none, 0, 0, [], false, ⟨#[]⟩, ⟨#[]⟩, false, false, false, false, false, false⟩
def lateC : Cl := ⟨EXP, ⟨2, ⟨#[]⟩, 1, none, 0, 0⟩, []⟩

theorem late_asked : Asked lateS := ⟨⟨by decide, by decide⟩, ⟨by decide, by decide⟩, by decide, ⟨by decide, (fun t h => by cases h)⟩, ⟨by decide, (fun t h => by cases h)⟩, by decide, by decide⟩
theorem late_okc : OkC lateC := .date (.inl rfl) rfl (by decide) (by decide) (by decide) rfl
theorem late_valid : Valid [lateC] := by
  refine ⟨fun i hi _ => ?_, fun i j hi hj h1 h2 => ?_⟩
  · have : i = 0 := by simp at hi; omega
    subst this
    exact late_okc
  · simp at hi hj; omega
theorem late_stat (w : World) : StAt w lateS :=
  ⟨⟨by decide, by decide⟩, ⟨by decide, by decide⟩, ⟨rfl, (fun h => absurd rfl h)⟩, ⟨rfl, (fun h => absurd rfl h)⟩, (fun t h => by cases h), (fun t h => by cases h), by decide, by decide, by decide, by decide⟩
theorem late_find (s : ByteArray) (h : s ≠ EXP) : findC [lateC] s = none := by
  unfold findC
  simp [List.find?, beqB_ne (show s ≠ lateC.name from h)]
theorem late_exp : findC [lateC] EXP = some lateC := by
  unfold findC
  simp [List.find?, show (EXP == lateC.name) = true from beqB_self EXP]
theorem late_names : NBF ≠ EXP ∧ IAT ≠ EXP ∧ ISS ≠ EXP ∧ SUB ≠ EXP ∧ AUD ≠ EXP := by decide
theorem hasS_nil : hasS (⟨#[]⟩ : ByteArray) = false := by unfold hasS; rw [ByteArray.toList_eq]; rfl
theorem late_wrongs : wrongs lateS [lateC] = [5] := by
  obtain ⟨e1, e2, e3, e4, e5⟩ := late_names
  unfold wrongs
  rw [show m1 lateS [lateC] = false by unfold m1; rw [noC_some late_exp]; rfl, show b1 lateS [lateC] = true by unfold b1; rw [isC_some late_exp]; decide,
    show m2 lateS [lateC] = false from Bool.and_false _, show b2 lateS [lateC] = false by unfold b2; rw [isC_none (late_find _ e1)], show b3 lateS [lateC] = false from rfl,
    show m4 lateS [lateC] = false from rfl, show b4 lateS [lateC] = false from rfl,
    show m5 lateS [lateC] = false by unfold m5; rw [show hasS lateS.iss = false from hasS_nil]; rfl, show b5 lateS [lateC] = false by unfold b5; rw [show hasS lateS.iss = false from hasS_nil]; rfl,
    show m6 lateS [lateC] = false by unfold m6; rw [show hasS lateS.sub = false from hasS_nil]; rfl, show b6 lateS [lateC] = false by unfold b6; rw [show hasS lateS.sub = false from hasS_nil]; rfl]
  rfl
theorem late_nums : numsTo (wrongs lateS [lateC]) 16 = [6] := by rw [late_wrongs]; rfl
theorem late_cl (w : World) : ClAt (w.alloc (.cells #[.string EXP, .int .i64 2, .string ⟨#[]⟩, .int .i64 1, .slice none 0 0] 29)) w.heap.size 0 lateC :=
  ⟨by simp [go_sem, lateC], by simp [go_sem, lateC], by simp [go_sem, lateC], by simp [go_sem, lateC], by simp [go_sem, lateC], by simp, ⟨by decide, ⟨by decide, by decide⟩, ⟨by decide, by decide⟩, by decide⟩, by decide, ⟨rfl, (fun x h => by cases h), (fun h => absurd rfl h)⟩⟩
theorem late_csat (w : World) : CsAt (w.alloc (.cells #[.string EXP, .int .i64 2, .string ⟨#[]⟩, .int .i64 1, .slice none 0 0] 29)) (some ⟨w.heap.size, 0, none⟩) 1 [lateC] := by
  refine ⟨rfl, by decide, fun _ => ⟨w.heap.size, 0, rfl, fun i hi => ?_⟩⟩
  have : i = 0 := by simp at hi; omega
  subst this
  exact late_cl w

theorem six_at (w : World) : IntsAt (w.alloc (.cells #[.int .i64 6] 3)) (.slice (some ⟨w.heap.size, 0, none⟩) 1 1) [6] :=
  ⟨some ⟨w.heap.size, 0, none⟩, 1, rfl, fun _ => ⟨w.heap.size, rfl, fun j hj => by
    have : j = 0 := by simp at hj; omega
    subst this
    simp [go_sem, intV]⟩⟩

/-- The cells of a block. -/
def BoxAt (w : World) (b : Nat) (vs : Array Value) : Prop := ∀ i u, vs[i]? = some u → w.cell? ⟨b, i, none⟩ = some u
theorem BoxAt.below {w w' : World} {b : Nat} {vs : Array Value} (h : BoxAt w b vs) (hb : Below w.heap.size w w') : BoxAt w' b vs := fun i u hi => cell_below (h i u hi) hb

set_option maxRecDepth 100000 in
set_option maxHeartbeats 4000000 in
theorem validate_law (se : Nat → Addr) (s : St) (a : Option Addr) (n cap : Nat) (cs : List Cl) (w : World) (hse : Sen w se) (hs : StAt w s) (hm : CsAt w a n cs) (hcap : n ≤ cap) (hmax : cap ≤ maxLen) :
    Calls Tryz.prog 4 #[.agg s.vals, .slice a n cap] w (YesB true w) := by
  have h11 : ∀ W, Below w.heap.size w W → Calls Tryz.prog 11 #[.agg s.vals] W (Tells True W) := fun W hb => fits2_tells s W (hs.below hb)
  have h12 : ∀ W, Below w.heap.size w W → Calls Tryz.prog 12 #[.agg s.vals] W (Tells (Asked s) W) := fun W hb => isAsked_tells s W (hs.below hb)
  have h13 : Asked s → Valid cs → ∀ W, Below w.heap.size w W → Calls Tryz.prog 13 #[.agg s.vals, .slice a n cap] W (GivesInts (numsTo (wrongs s cs) 16) W) := fun hA hv W hb => validate_right se s cs a n cap W (hse.below hb) (hs.below hb) hA (hm.below hb) hv
  have h15 : Asked s → Valid cs → ∀ W, Below w.heap.size w W → Calls Tryz.prog 15 #[.agg s.vals, .slice a n cap] W (GivesInts (numsTo (wrongs s cs) 16) W) := fun hA hv W hb => by
    rw [← wrongs_law]; exact wrong_gives s a n cap cs W (hm.below hb) hv hA (hs.below hb)
  have hlateG : ∀ (W W' : World) (g : Nat), Below w.heap.size w W' → CsAt W' (some ⟨g, 0, none⟩) 1 [lateC] → Calls Tryz.prog 13 #[.agg lateS.vals, .slice (some ⟨g, 0, none⟩) 1 1] W' (GivesInts [6] W') := fun W W' g hb hc => by
    rw [← late_nums]; exact validate_right se lateS [lateC] _ 1 1 W' (hse.below hb) (late_stat W') late_asked hc late_valid
  have hlen : (numsTo (wrongs s cs) 16).length ≤ 1000 := Nat.le_trans (numsTo_le _ _) (by decide)
  generalize numsTo (wrongs s cs) 16 = L at h13 h15 hlen
  have HLEN := Lib.hid hlen; clear hlen
  have H11 := Lib.hid h11; clear h11
  have H12 := Lib.hid h12; clear h12
  have H13 := Lib.hid h13; clear h13
  have H15 := Lib.hid h15; clear h15
  have HL := Lib.hid hlateG; clear hlateG
  have HSE := Lib.hid hse; clear hse
  have HS := Lib.hid hs; clear hs
  have HM := Lib.hid hm; clear hm
  have HCAP := Lib.hid hcap
  have HMAX := Lib.hid hmax
  have hn63 : n ≤ 9223372036854775807 := by unfold maxLen at hmax; omega
  clear hcap hmax
  obtain ⟨now, leeway, ma, ml, mc, ms, aa, al, ac, auds, all, iss, sub, nexp, nnbf, iat, un, pad, str⟩ := s
  unfold St.vals lateS at HL
  unfold St.vals at H11 H12 H13 H15 ⊢
  simp only at H11 H12 H13 H15 HL ⊢
  have hB1 : Below w.heap.size w (w.alloc (.cells #[.int .i64 now, .int .i64 leeway, .slice ma ml mc, .slice aa al ac, .bool all, .string iss, .string sub, .bool nexp, .bool nnbf, .bool iat, .bool un, .bool pad, .bool str] 38)) := below1 _ _
  have HB1 := Lib.hid hB1; clear hB1
  have hbox : BoxAt (w.alloc (.cells #[.int .i64 now, .int .i64 leeway, .slice ma ml mc, .slice aa al ac, .bool all, .string iss, .string sub, .bool nexp, .bool nnbf, .bool iat, .bool un, .bool pad, .bool str] 38)) w.heap.size #[.int .i64 now, .int .i64 leeway, .slice ma ml mc, .slice aa al ac, .bool all, .string iss, .string sub, .bool nexp, .bool nnbf, .bool iat, .bool un, .bool pad, .bool str] := fun i u hi => by
    simp only [World.cell?, heap_alloc_new]; simpa using hi
  have HBOX := Lib.hid hbox; clear hbox
  go_enter Tryz.func4, Tryz.ntmps4
  go_wp2_with fail
  refine (H11.out _ HB1.out).mono ?_
  rintro e w1 ⟨r, rfl, _, hb1⟩
  have HBW1 := Lib.hid (HB1.out.trans (hb1.mono HB1.out.size))
  have HBX1 := Lib.hid (HBOX.out.below hb1); clear hb1 HBOX
  cases r
  · go_wp2
    go_ret
    exact ⟨rfl, HBW1.out⟩
  have f0 : w1.cell? ⟨w.heap.size, 0, none⟩ = some (.int .i64 now) := HBX1.out 0 _ rfl
  have f1 : w1.cell? ⟨w.heap.size, 1, none⟩ = some (.int .i64 leeway) := HBX1.out 1 _ rfl
  have f2 : w1.cell? ⟨w.heap.size, 2, none⟩ = some (.slice ma ml mc) := HBX1.out 2 _ rfl
  have f3 : w1.cell? ⟨w.heap.size, 3, none⟩ = some (.slice aa al ac) := HBX1.out 3 _ rfl
  have f4 : w1.cell? ⟨w.heap.size, 4, none⟩ = some (.bool all) := HBX1.out 4 _ rfl
  have f5 : w1.cell? ⟨w.heap.size, 5, none⟩ = some (.string iss) := HBX1.out 5 _ rfl
  have f6 : w1.cell? ⟨w.heap.size, 6, none⟩ = some (.string sub) := HBX1.out 6 _ rfl
  have f7 : w1.cell? ⟨w.heap.size, 7, none⟩ = some (.bool nexp) := HBX1.out 7 _ rfl
  have f8 : w1.cell? ⟨w.heap.size, 8, none⟩ = some (.bool nnbf) := HBX1.out 8 _ rfl
  have f9 : w1.cell? ⟨w.heap.size, 9, none⟩ = some (.bool iat) := HBX1.out 9 _ rfl
  have f10 : w1.cell? ⟨w.heap.size, 10, none⟩ = some (.bool un) := HBX1.out 10 _ rfl
  have f11 : w1.cell? ⟨w.heap.size, 11, none⟩ = some (.bool pad) := HBX1.out 11 _ rfl
  have f12 : w1.cell? ⟨w.heap.size, 12, none⟩ = some (.bool str) := HBX1.out 12 _ rfl
  go_wp2_with fail
  · go_ret
    exact ⟨rfl, HBW1.out⟩
  refine (H12.out _ HBW1.out).mono ?_
  rintro e w2 ⟨r, rfl, hasked, hb2⟩
  clear f0 f1 f2 f3 f4 f5 f6 f7 f8 f9 f10 f11 f12
  have HBW2 := Lib.hid (HBW1.out.trans (hb2.mono HBW1.out.size))
  have HBX2 := Lib.hid (HBX1.out.below hb2); clear hb2 HBX1
  cases r
  · go_wp2
    go_ret
    exact ⟨rfl, HBW2.out⟩
  have HASK := Lib.hid (hasked rfl); clear hasked
  go_wp2_with fail
  refine (areClaims_tells a n cap cs _ (HM.out.below HBW2.out) HCAP.out HMAX.out).mono ?_
  rintro e w3 ⟨r, rfl, hvalid, hb3⟩
  have HBW3 := Lib.hid (HBW2.out.trans (hb3.mono HBW2.out.size))
  have HBX3 := Lib.hid (HBX2.out.below hb3); clear hb3 HBX2
  cases r
  · go_wp2
    go_ret
    exact ⟨rfl, HBW3.out⟩
  have HVAL := Lib.hid (hvalid rfl); clear hvalid
  go_wp2_with fail
  have hb4 : Below w3.heap.size w3 (w3.alloc (.cells #[.string EXP, .int .i64 2, .string ⟨#[]⟩, .int .i64 1, .slice none 0 0] 29)) := below1 _ _
  refine (HL.out w3 _ w3.heap.size (HBW3.out.trans (hb4.mono HBW3.out.size)) (late_csat w3)).mono ?_
  rintro e w5 ⟨s0, rfl, ho0, hb5⟩
  have hb35 := hb4.trans (hb5.mono hb4.size)
  have HBW5 := Lib.hid (HBW3.out.trans (hb35.mono HBW3.out.size))
  have HBX5 := Lib.hid (HBX3.out.below hb35); clear hb5 hb35 hb4 HBX3
  have HI0 := Lib.hid (show IntsAt w5 s0 [6] from ints_of_own ho0); clear ho0
  go_upto_region 6 with fail
  have HBW5d : Hid (Below w.heap.size w w5.drew) := Lib.hid HBW5.out.drew
  have HBX5d : Hid (BoxAt w5.drew w.heap.size #[.int .i64 now, .int .i64 leeway, .slice ma ml mc, .slice aa al ac, .bool all, .string iss, .string sub, .bool nexp, .bool nnbf, .bool iat, .bool un, .bool pad, .bool str]) := Lib.hid HBX5.out
  have HI0d : Hid (IntsAt w5.drew s0 [6]) := Lib.hid HI0.out
  have HS5 : Hid (w5.drew.cell? ⟨w.heap.size, 0, none⟩ = some (.int .i64 now) ∧ w5.drew.cell? ⟨w.heap.size, 1, none⟩ = some (.int .i64 leeway) ∧ w5.drew.cell? ⟨w.heap.size, 2, none⟩ = some (.slice ma ml mc) ∧ w5.drew.cell? ⟨w.heap.size, 3, none⟩ = some (.slice aa al ac) ∧ w5.drew.cell? ⟨w.heap.size, 4, none⟩ = some (.bool all) ∧ w5.drew.cell? ⟨w.heap.size, 5, none⟩ = some (.string iss) ∧ w5.drew.cell? ⟨w.heap.size, 6, none⟩ = some (.string sub) ∧ w5.drew.cell? ⟨w.heap.size, 7, none⟩ = some (.bool nexp) ∧ w5.drew.cell? ⟨w.heap.size, 8, none⟩ = some (.bool nnbf) ∧ w5.drew.cell? ⟨w.heap.size, 9, none⟩ = some (.bool iat) ∧ w5.drew.cell? ⟨w.heap.size, 10, none⟩ = some (.bool un) ∧ w5.drew.cell? ⟨w.heap.size, 11, none⟩ = some (.bool pad) ∧ w5.drew.cell? ⟨w.heap.size, 12, none⟩ = some (.bool str)) := Lib.hid ⟨HBX5d.out 0 _ rfl, HBX5d.out 1 _ rfl, HBX5d.out 2 _ rfl, HBX5d.out 3 _ rfl, HBX5d.out 4 _ rfl, HBX5d.out 5 _ rfl, HBX5d.out 6 _ rfl, HBX5d.out 7 _ rfl, HBX5d.out 8 _ rfl, HBX5d.out 9 _ rfl, HBX5d.out 10 _ rfl, HBX5d.out 11 _ rfl, HBX5d.out 12 _ rfl⟩
  have hk13 := H13.out HASK.out HVAL.out _ HBW5d.out
  have HK13 := Lib.hid hk13; clear hk13
  have h15 := H15.out HASK.out HVAL.out
  have HK15 := Lib.hid h15; clear h15
  clear HM HSE HS HCAP HMAX HB1 H11 H12 HL H13 H15
  go_region_held3 (fun w' => w'.cell? ⟨w.heap.size, 0, none⟩ = some (.int .i64 now) ∧ w'.cell? ⟨w.heap.size, 1, none⟩ = some (.int .i64 leeway) ∧ w'.cell? ⟨w.heap.size, 2, none⟩ = some (.slice ma ml mc) ∧ w'.cell? ⟨w.heap.size, 3, none⟩ = some (.slice aa al ac) ∧ w'.cell? ⟨w.heap.size, 4, none⟩ = some (.bool all) ∧ w'.cell? ⟨w.heap.size, 5, none⟩ = some (.string iss) ∧ w'.cell? ⟨w.heap.size, 6, none⟩ = some (.string sub) ∧ w'.cell? ⟨w.heap.size, 7, none⟩ = some (.bool nexp) ∧ w'.cell? ⟨w.heap.size, 8, none⟩ = some (.bool nnbf) ∧ w'.cell? ⟨w.heap.size, 9, none⟩ = some (.bool iat) ∧ w'.cell? ⟨w.heap.size, 10, none⟩ = some (.bool un) ∧ w'.cell? ⟨w.heap.size, 11, none⟩ = some (.bool pad) ∧ w'.cell? ⟨w.heap.size, 12, none⟩ = some (.bool str)) (first | with_reducible exact HS5.out | with_reducible exact HS6.out | with_reducible exact HS7.out | with_reducible exact HS8.out | with_reducible exact HS8a.out | with_reducible exact HS9.out)
    (first
      | (go_at_call 13; (with_reducible refine HK13.out.mono ?_); rintro e w6 ⟨s1, rfl, ho1, hb6⟩; have HBW6 := Lib.hid (HBW5d.out.trans (hb6.mono HBW5d.out.size)); have HBX6 := Lib.hid (HBX5d.out.below hb6); have HS6 : Hid (w6.cell? ⟨w.heap.size, 0, none⟩ = some (.int .i64 now) ∧ w6.cell? ⟨w.heap.size, 1, none⟩ = some (.int .i64 leeway) ∧ w6.cell? ⟨w.heap.size, 2, none⟩ = some (.slice ma ml mc) ∧ w6.cell? ⟨w.heap.size, 3, none⟩ = some (.slice aa al ac) ∧ w6.cell? ⟨w.heap.size, 4, none⟩ = some (.bool all) ∧ w6.cell? ⟨w.heap.size, 5, none⟩ = some (.string iss) ∧ w6.cell? ⟨w.heap.size, 6, none⟩ = some (.string sub) ∧ w6.cell? ⟨w.heap.size, 7, none⟩ = some (.bool nexp) ∧ w6.cell? ⟨w.heap.size, 8, none⟩ = some (.bool nnbf) ∧ w6.cell? ⟨w.heap.size, 9, none⟩ = some (.bool iat) ∧ w6.cell? ⟨w.heap.size, 10, none⟩ = some (.bool un) ∧ w6.cell? ⟨w.heap.size, 11, none⟩ = some (.bool pad) ∧ w6.cell? ⟨w.heap.size, 12, none⟩ = some (.bool str)) := Lib.hid ⟨HBX6.out 0 _ rfl, HBX6.out 1 _ rfl, HBX6.out 2 _ rfl, HBX6.out 3 _ rfl, HBX6.out 4 _ rfl, HBX6.out 5 _ rfl, HBX6.out 6 _ rfl, HBX6.out 7 _ rfl, HBX6.out 8 _ rfl, HBX6.out 9 _ rfl, HBX6.out 10 _ rfl, HBX6.out 11 _ rfl, HBX6.out 12 _ rfl⟩; have HI06 := Lib.hid (HI0d.out.below hb6); have HI16 := Lib.hid (ints_of_own ho1); clear ho1 hb6)
      | (go_at_call 15; (with_reducible refine (HK15.out _ HBW6.out).mono ?_); rintro e w7 ⟨s2, rfl, ho2, hb7⟩; have HBW7 := Lib.hid (HBW6.out.trans (hb7.mono HBW6.out.size)); have HBX7 := Lib.hid (HBX6.out.below hb7); have HS7 : Hid (w7.cell? ⟨w.heap.size, 0, none⟩ = some (.int .i64 now) ∧ w7.cell? ⟨w.heap.size, 1, none⟩ = some (.int .i64 leeway) ∧ w7.cell? ⟨w.heap.size, 2, none⟩ = some (.slice ma ml mc) ∧ w7.cell? ⟨w.heap.size, 3, none⟩ = some (.slice aa al ac) ∧ w7.cell? ⟨w.heap.size, 4, none⟩ = some (.bool all) ∧ w7.cell? ⟨w.heap.size, 5, none⟩ = some (.string iss) ∧ w7.cell? ⟨w.heap.size, 6, none⟩ = some (.string sub) ∧ w7.cell? ⟨w.heap.size, 7, none⟩ = some (.bool nexp) ∧ w7.cell? ⟨w.heap.size, 8, none⟩ = some (.bool nnbf) ∧ w7.cell? ⟨w.heap.size, 9, none⟩ = some (.bool iat) ∧ w7.cell? ⟨w.heap.size, 10, none⟩ = some (.bool un) ∧ w7.cell? ⟨w.heap.size, 11, none⟩ = some (.bool pad) ∧ w7.cell? ⟨w.heap.size, 12, none⟩ = some (.bool str)) := Lib.hid ⟨HBX7.out 0 _ rfl, HBX7.out 1 _ rfl, HBX7.out 2 _ rfl, HBX7.out 3 _ rfl, HBX7.out 4 _ rfl, HBX7.out 5 _ rfl, HBX7.out 6 _ rfl, HBX7.out 7 _ rfl, HBX7.out 8 _ rfl, HBX7.out 9 _ rfl, HBX7.out 10 _ rfl, HBX7.out 11 _ rfl, HBX7.out 12 _ rfl⟩; have HI07 := Lib.hid (HI06.out.below hb7); have HI17 := Lib.hid (HI16.out.below hb7); have HI27 := Lib.hid (ints_of_own ho2); clear ho2 hb7)
      | (go_at_call 14; (with_reducible refine (same_true s1 s2 L w7 HI17.out HI27.out HLEN.out).mono ?_); rintro e w8 ⟨rfl, hb8⟩; have HBW8 := Lib.hid (HBW7.out.trans (hb8.mono HBW7.out.size)); have HBX8 := Lib.hid (HBX7.out.below hb8); have HS8 : Hid (w8.cell? ⟨w.heap.size, 0, none⟩ = some (.int .i64 now) ∧ w8.cell? ⟨w.heap.size, 1, none⟩ = some (.int .i64 leeway) ∧ w8.cell? ⟨w.heap.size, 2, none⟩ = some (.slice ma ml mc) ∧ w8.cell? ⟨w.heap.size, 3, none⟩ = some (.slice aa al ac) ∧ w8.cell? ⟨w.heap.size, 4, none⟩ = some (.bool all) ∧ w8.cell? ⟨w.heap.size, 5, none⟩ = some (.string iss) ∧ w8.cell? ⟨w.heap.size, 6, none⟩ = some (.string sub) ∧ w8.cell? ⟨w.heap.size, 7, none⟩ = some (.bool nexp) ∧ w8.cell? ⟨w.heap.size, 8, none⟩ = some (.bool nnbf) ∧ w8.cell? ⟨w.heap.size, 9, none⟩ = some (.bool iat) ∧ w8.cell? ⟨w.heap.size, 10, none⟩ = some (.bool un) ∧ w8.cell? ⟨w.heap.size, 11, none⟩ = some (.bool pad) ∧ w8.cell? ⟨w.heap.size, 12, none⟩ = some (.bool str)) := Lib.hid ⟨HBX8.out 0 _ rfl, HBX8.out 1 _ rfl, HBX8.out 2 _ rfl, HBX8.out 3 _ rfl, HBX8.out 4 _ rfl, HBX8.out 5 _ rfl, HBX8.out 6 _ rfl, HBX8.out 7 _ rfl, HBX8.out 8 _ rfl, HBX8.out 9 _ rfl, HBX8.out 10 _ rfl, HBX8.out 11 _ rfl, HBX8.out 12 _ rfl⟩; have HBX8a := Lib.hid (HBX8.out.below (below1 w8 (.cells #[.int .i64 6] 3))); have HS8a : Hid ((w8.alloc (.cells #[.int .i64 6] 3)).cell? ⟨w.heap.size, 0, none⟩ = some (.int .i64 now) ∧ (w8.alloc (.cells #[.int .i64 6] 3)).cell? ⟨w.heap.size, 1, none⟩ = some (.int .i64 leeway) ∧ (w8.alloc (.cells #[.int .i64 6] 3)).cell? ⟨w.heap.size, 2, none⟩ = some (.slice ma ml mc) ∧ (w8.alloc (.cells #[.int .i64 6] 3)).cell? ⟨w.heap.size, 3, none⟩ = some (.slice aa al ac) ∧ (w8.alloc (.cells #[.int .i64 6] 3)).cell? ⟨w.heap.size, 4, none⟩ = some (.bool all) ∧ (w8.alloc (.cells #[.int .i64 6] 3)).cell? ⟨w.heap.size, 5, none⟩ = some (.string iss) ∧ (w8.alloc (.cells #[.int .i64 6] 3)).cell? ⟨w.heap.size, 6, none⟩ = some (.string sub) ∧ (w8.alloc (.cells #[.int .i64 6] 3)).cell? ⟨w.heap.size, 7, none⟩ = some (.bool nexp) ∧ (w8.alloc (.cells #[.int .i64 6] 3)).cell? ⟨w.heap.size, 8, none⟩ = some (.bool nnbf) ∧ (w8.alloc (.cells #[.int .i64 6] 3)).cell? ⟨w.heap.size, 9, none⟩ = some (.bool iat) ∧ (w8.alloc (.cells #[.int .i64 6] 3)).cell? ⟨w.heap.size, 10, none⟩ = some (.bool un) ∧ (w8.alloc (.cells #[.int .i64 6] 3)).cell? ⟨w.heap.size, 11, none⟩ = some (.bool pad) ∧ (w8.alloc (.cells #[.int .i64 6] 3)).cell? ⟨w.heap.size, 12, none⟩ = some (.bool str)) := Lib.hid ⟨HBX8a.out 0 _ rfl, HBX8a.out 1 _ rfl, HBX8a.out 2 _ rfl, HBX8a.out 3 _ rfl, HBX8a.out 4 _ rfl, HBX8a.out 5 _ rfl, HBX8a.out 6 _ rfl, HBX8a.out 7 _ rfl, HBX8a.out 8 _ rfl, HBX8a.out 9 _ rfl, HBX8a.out 10 _ rfl, HBX8a.out 11 _ rfl, HBX8a.out 12 _ rfl⟩; have HI08 := Lib.hid (HI07.out.below hb8); have HSIX := Lib.hid (six_at w8); clear hb8)
      | (go_at_call 14; (with_reducible refine (same_true s0 (.slice (some ⟨w8.heap.size, 0, none⟩) 1 1) [6] _ (HI08.out.below (below1 _ _)) HSIX.out (by decide)).mono ?_); rintro e w9 ⟨rfl, hb9⟩; have HBW9 := Lib.hid ((HBW8.out.alloc HBW8.out.size (.cells #[.int .i64 6] 3)).trans (hb9.mono (HBW8.out.alloc HBW8.out.size _).size)); have HBX9 := Lib.hid (HBX8a.out.below hb9); have HS9 : Hid (w9.cell? ⟨w.heap.size, 0, none⟩ = some (.int .i64 now) ∧ w9.cell? ⟨w.heap.size, 1, none⟩ = some (.int .i64 leeway) ∧ w9.cell? ⟨w.heap.size, 2, none⟩ = some (.slice ma ml mc) ∧ w9.cell? ⟨w.heap.size, 3, none⟩ = some (.slice aa al ac) ∧ w9.cell? ⟨w.heap.size, 4, none⟩ = some (.bool all) ∧ w9.cell? ⟨w.heap.size, 5, none⟩ = some (.string iss) ∧ w9.cell? ⟨w.heap.size, 6, none⟩ = some (.string sub) ∧ w9.cell? ⟨w.heap.size, 7, none⟩ = some (.bool nexp) ∧ w9.cell? ⟨w.heap.size, 8, none⟩ = some (.bool nnbf) ∧ w9.cell? ⟨w.heap.size, 9, none⟩ = some (.bool iat) ∧ w9.cell? ⟨w.heap.size, 10, none⟩ = some (.bool un) ∧ w9.cell? ⟨w.heap.size, 11, none⟩ = some (.bool pad) ∧ w9.cell? ⟨w.heap.size, 12, none⟩ = some (.bool str)) := Lib.hid ⟨HBX9.out 0 _ rfl, HBX9.out 1 _ rfl, HBX9.out 2 _ rfl, HBX9.out 3 _ rfl, HBX9.out 4 _ rfl, HBX9.out 5 _ rfl, HBX9.out 6 _ rfl, HBX9.out 7 _ rfl, HBX9.out 8 _ rfl, HBX9.out 9 _ rfl, HBX9.out 10 _ rfl, HBX9.out 11 _ rfl, HBX9.out 12 _ rfl⟩; clear hb9))
  all_goals
    go_wp2
    go_ret
    exact ⟨rfl, HBW9.out⟩
end Go.Proofs.YtgaaehpmbkjhlaaGreatDoor
