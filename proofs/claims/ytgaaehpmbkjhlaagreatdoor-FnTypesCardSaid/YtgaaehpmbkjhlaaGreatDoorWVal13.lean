/- impl.Validate tells the numbers of what the checks leave. -/
import Derived.Test.YtgaaehpmbkjhlaaGreatDoorWValid
import Derived.Test.YtgaaehpmbkjhlaaGreatDoorWSetOk
namespace Go.Proofs.YtgaaehpmbkjhlaaGreatDoor
open Go Go.RowKit

/-- A validator by settings. -/
structure VldAt (w : World) (v bs : Nat) (s : St) (wa : Option Addr) (wc : Nat) : Prop where
  now : w.cell? ⟨bs, 0, none⟩ = some (.int .i64 s.now)
  str : s.al ≠ 0 → StrsAt w wa s.al s.auds
  d0 : w.cell? ⟨v, 0, none⟩ = some (.int .i64 s.leeway)
  d1 : w.cell? ⟨v, 1, none⟩ = some (tfOf bs)
  d2 : w.cell? ⟨v, 2, none⟩ = some (.bool s.nexp)
  d3 : w.cell? ⟨v, 3, none⟩ = some (.bool s.nnbf)
  d4 : w.cell? ⟨v, 4, none⟩ = some (.bool s.iat)
  d5 : w.cell? ⟨v, 5, none⟩ = some (.slice wa s.al wc)
  d6 : s.al ≠ 0 → w.cell? ⟨v, 6, none⟩ = some (.bool s.all)
  d7 : w.cell? ⟨v, 7, none⟩ = some (.string s.iss)
  d8 : w.cell? ⟨v, 8, none⟩ = some (.string s.sub)

theorem VldAt.below {w w' : World} {v bs : Nat} {s : St} {wa : Option Addr} {wc : Nat} (h : VldAt w v bs s wa wc) (hb : Below w.heap.size w w') : VldAt w' v bs s wa wc :=
  ⟨cell_below h.now hb, fun h0 => (h.str h0).below hb, cell_below h.d0 hb, cell_below h.d1 hb, cell_below h.d2 hb, cell_below h.d3 hb, cell_below h.d4 hb, cell_below h.d5 hb, fun h0 => cell_below (h.d6 h0) hb, cell_below h.d7 hb, cell_below h.d8 hb⟩

/-- jwt.NewValidator of the options of settings. -/
theorem newVal_opts (s : St) (w w1 : World) (e : Ending) (hal : s.auds.length = s.al) (h : GivesOpts s w e w1) :
    ∃ g n cap, e = .returned (.slice (some ⟨g, 0, none⟩) n cap) ∧ Below w.heap.size w w1 ∧
      Calls Tryz.prog 33 #[.slice (some ⟨g, 0, none⟩) n cap] w1 fun e w2 => ∃ v bs wa wc, e = .returned (.pointer (some ⟨v, 0, none⟩)) ∧ VldAt w2 v bs s wa wc ∧ Below w1.heap.size w1 w2 := by
  obtain ⟨bs, bo, sl, os, D, rfl, hout, host, hlen, hD, hok, haud, hbs⟩ := h
  have hne : 0 < os.length := by
    rcases Nat.eq_zero_or_pos os.length with h0 | h0
    · exfalso
      obtain rfl := List.eq_nil_of_length_eq_zero h0
      have h1 := hok.tf
      rw [← hD] at h1
      simp [effs, d0, tfOf] at h1
    · exact h0
  obtain ⟨g, cap, rfl, _, _⟩ := hout.own.form (by simpa using hne)
  refine ⟨g, _, cap, rfl, host.below, ?_⟩
  have hcells : ∀ j (h : j < os.length), w1.cell? ⟨g, j, none⟩ = some os[j].val := fun j h => by
    have := hout.own.cells (g := g) rfl j os[j].val (by simp [h])
    rw [Addr.add_mid] at this
    simpa using this
  refine (newValidator_gives os g _ cap w1 (by simp) (by simp; omega) hcells (fun o ho => ⟨(host.opts o ho).shape, fun b hb => ((host.opts o ho).box b hb).2⟩)).mono ?_
  rintro e w2 ⟨p, v, rfl, hp, hb⟩
  rw [hD] at hp
  have hnow : w1.cell? ⟨bs, 0, none⟩ = some (.int .i64 s.now) := host.cell 0 _ rfl
  have hstr : ∃ wa wc, D 5 = .slice wa s.al wc ∧ (s.al ≠ 0 → StrsAt w1 wa s.al s.auds) := by
    by_cases h0 : s.al = 0
    · rw [h0]
      exact ⟨none, 0, hok.none h0, fun h => absurd rfl h⟩
    · obtain ⟨o, ho, hf, hss, hx⟩ := haud h0
      obtain ⟨hrow, _⟩ := (host.opts o ho).row hf
      rw [hss, hal] at hrow
      obtain ⟨g2, cap2, e2, _, _⟩ := hrow.form (by omega)
      refine ⟨_, cap2, by rw [hx, e2], fun _ => ⟨hal, fun _ => ⟨g2, 0, rfl, ?_, fun j hj => ?_⟩⟩⟩
      · exact (hrow.lt g2 (by rw [e2]; rfl)).2
      · have := hrow.cells (g := g2) (by rw [e2]; rfl) j (.string s.auds[j]) (by simp [hj])
        rw [Addr.add_mid] at this
        simpa using this
  obtain ⟨wa, wc, h5, hs5⟩ := hstr
  refine ⟨v, bs, wa, wc, rfl, ⟨cell_below hnow hb, fun h0 => (hs5 h0).below hb, (hp.vc 0 (by decide)).trans (by rw [hok.lee]), (hp.vc 1 (by decide)).trans (by rw [hok.tf]), (hp.vc 2 (by decide)).trans (by rw [hok.nexp]),
    (hp.vc 3 (by decide)).trans (by rw [hok.nnbf]), (hp.vc 4 (by decide)).trans (by rw [hok.iat]), (hp.vc 5 (by decide)).trans (by rw [h5]), fun h0 => (hp.vc 6 (by decide)).trans (by rw [hok.all h0]), (hp.vc 7 (by decide)).trans (by rw [hok.iss]), (hp.vc 8 (by decide)).trans (by rw [hok.sub])⟩, hb⟩

/-- impl.numbersOf of what Validate gives. -/
theorem numbersOf_v (se : Nat → Addr) (ks : List Nat) (w0 w : World) (e : Ending) (hse : Sen w se) (hlen : ks.length ≤ 1000) (hlt : ∀ k ∈ ks, k < 16) (h : GivesV se ks w0 e w) :
    ∃ x, e = .returned x ∧ Calls Tryz.prog 32 #[x] w (GivesInts (numsTo ks 16) w) := by
  rcases h with ⟨rfl, rfl, _⟩ | ⟨h0, b, g, c, rfl, hc, hcells, _⟩
  · exact ⟨_, rfl, numbersOf_nil w⟩
  · exact ⟨_, rfl, numbersOf_joined se ks b g _ c w hse hc rfl hlen ⟨hcells, hlt⟩⟩
theorem GivesV.below {se : Nat → Addr} {ks : List Nat} {w w' : World} {e : Ending} (h : GivesV se ks w e w') : Below w.heap.size w w' := by
  rcases h with ⟨_, _, h⟩ | ⟨_, b, g, c, _, _, _, h⟩ <;> exact h

set_option maxRecDepth 100000 in
set_option maxHeartbeats 4000000 in
theorem validate13 (se : Nat → Addr) (s : St) (cs : List Cl) (r1 r2 r3 r4 r5 r6 : Option Nat) (hch : Checks se s cs r1 r2 r3 r4 r5 r6) (a : Option Addr) (n cap : Nat) (w : World) (hse : Sen w se) (hs : StAt w s) (hfs : FineS s) (hm : CsAt w a n cs) (hf : Fine cs)
    (hlen : ((((((([] : List Nat) ++ oL r1) ++ oL r2) ++ oL r3) ++ oL r4) ++ oL r5) ++ oL r6).length ≤ 1000) (hlt : ∀ k ∈ ((((((([] : List Nat) ++ oL r1) ++ oL r2) ++ oL r3) ++ oL r4) ++ oL r5) ++ oL r6), k < 16) :
    Calls Tryz.prog 13 #[.agg s.vals, .slice a n cap] w (GivesInts (numsTo (((((([] ++ oL r1) ++ oL r2) ++ oL r3) ++ oL r4) ++ oL r5) ++ oL r6) 16) w) := by
  have HSE := Lib.hid hse; clear hse
  have HM := Lib.hid hm; clear hm
  have HF := Lib.hid hf; clear hf
  have hV : ∀ v bm bs wa wc (W : World), Sen W se → MapAt W bm cs → VldAt W v bs s wa wc → Calls Tryz.prog 35 #[.pointer (some ⟨v, 0, none⟩), .iface 47 (.map (some bm))] W (GivesV se (((((([] ++ oL r1) ++ oL r2) ++ oL r3) ++ oL r4) ++ oL r5) ++ oL r6) W) := fun v bm bs wa wc W h1 h2 h3 =>
    validate_gives se s cs r1 r2 r3 r4 r5 r6 hch v bm bs wa wc W h1 h2 ⟨by have := hfs.now.1; omega, by have := hfs.now.2; omega⟩ h3.now h3.str (by have := hfs.a.1; omega) h3.d0 h3.d1 h3.d2 h3.d3 h3.d4 h3.d5 h3.d6 h3.d7 h3.d8
  generalize ((((([] ++ oL r1) ++ oL r2) ++ oL r3) ++ oL r4) ++ oL r5) ++ oL r6 = KS at hlen hlt hV ⊢
  have HLEN := Lib.hid hlen; clear hlen
  have HLT := Lib.hid hlt; clear hlt
  have HV := Lib.hid hV; clear hV
  clear hch
  have h31 : ∀ W, Below w.heap.size w W → Calls Tryz.prog 31 #[.agg s.vals] W (YesB true W) := fun W hb => settingsOk_true s W (hs.below hb) hfs
  have h34 : ∀ W, Below w.heap.size w W → Calls Tryz.prog 34 #[.agg s.vals] W (GivesOpts s W) := fun W hb => optionsOf_gives s W (hs.below hb) hfs
  have hnv : ∀ w w1 e, GivesOpts s w e w1 → _ := fun w w1 e => newVal_opts s w w1 e hs.a.1
  have HNV := Lib.hid hnv; clear hnv
  have H31 := Lib.hid h31; clear h31
  have H34 := Lib.hid h34; clear h34
  clear hs hfs
  obtain ⟨now, leeway, ma, ml, mc, ms, aa, al, ac, auds, all, iss, sub, nexp, nnbf, iat, un, pad, str⟩ := s
  unfold St.vals at H31 H34 ⊢
  simp only at H31 H34
  simp only
  have hB1 : Below w.heap.size w (w.alloc (.cells #[.int .i64 now, .int .i64 leeway, .slice ma ml mc, .slice aa al ac, .bool all, .string iss, .string sub, .bool nexp, .bool nnbf, .bool iat, .bool un, .bool pad, .bool str] 38)) := below1 _ _
  have HB1 := Lib.hid hB1; clear hB1
  have hc : ∀ i u, #[.int .i64 now, .int .i64 leeway, .slice ma ml mc, .slice aa al ac, .bool all, .string iss, .string sub, .bool nexp, .bool nnbf, .bool iat, .bool un, .bool pad, .bool str][i]? = some u → (w.alloc (.cells #[.int .i64 now, .int .i64 leeway, .slice ma ml mc, .slice aa al ac, .bool all, .string iss, .string sub, .bool nexp, .bool nnbf, .bool iat, .bool un, .bool pad, .bool str] 38)).cell? ⟨w.heap.size, i, none⟩ = some u := fun i u hi => by
    simp only [World.cell?, heap_alloc_new]; simpa using hi
  have HC := Lib.hid hc; clear hc
  have hs1 : (w.alloc (.cells #[.int .i64 now, .int .i64 leeway, .slice ma ml mc, .slice aa al ac, .bool all, .string iss, .string sub, .bool nexp, .bool nnbf, .bool iat, .bool un, .bool pad, .bool str] 38)).heap.size = w.heap.size + 1 := by simp
  go_enter Tryz.func13, Tryz.ntmps13
  go_wp2_with fail
  refine (H31.out _ HB1.out).mono ?_
  rintro e w1 ⟨rfl, hb1⟩
  have HBB1 := Lib.hid hb1
  have HBW1 := Lib.hid (HB1.out.trans (hb1.mono HB1.out.size)); clear hb1
  go_wp2_with fail
  refine (claimsOk_fine a n cap cs _ (HM.out.below HBW1.out) HF.out).mono ?_
  rintro e w2 ⟨rfl, hb2⟩
  have hbX := HBB1.out.trans (hb2.mono HBB1.out.size)
  have HBW2 := Lib.hid (HBW1.out.trans (hb2.mono HBW1.out.size)); clear hb2 HBB1
  have f0 : w2.cell? ⟨w.heap.size, 0, none⟩ = some (.int .i64 now) := (hbX.cell (p := ⟨w.heap.size, 0, none⟩) (by simp)).trans (HC.out 0 _ rfl)
  have f1 : w2.cell? ⟨w.heap.size, 1, none⟩ = some (.int .i64 leeway) := (hbX.cell (p := ⟨w.heap.size, 1, none⟩) (by simp)).trans (HC.out 1 _ rfl)
  have f2 : w2.cell? ⟨w.heap.size, 2, none⟩ = some (.slice ma ml mc) := (hbX.cell (p := ⟨w.heap.size, 2, none⟩) (by simp)).trans (HC.out 2 _ rfl)
  have f3 : w2.cell? ⟨w.heap.size, 3, none⟩ = some (.slice aa al ac) := (hbX.cell (p := ⟨w.heap.size, 3, none⟩) (by simp)).trans (HC.out 3 _ rfl)
  have f4 : w2.cell? ⟨w.heap.size, 4, none⟩ = some (.bool all) := (hbX.cell (p := ⟨w.heap.size, 4, none⟩) (by simp)).trans (HC.out 4 _ rfl)
  have f5 : w2.cell? ⟨w.heap.size, 5, none⟩ = some (.string iss) := (hbX.cell (p := ⟨w.heap.size, 5, none⟩) (by simp)).trans (HC.out 5 _ rfl)
  have f6 : w2.cell? ⟨w.heap.size, 6, none⟩ = some (.string sub) := (hbX.cell (p := ⟨w.heap.size, 6, none⟩) (by simp)).trans (HC.out 6 _ rfl)
  have f7 : w2.cell? ⟨w.heap.size, 7, none⟩ = some (.bool nexp) := (hbX.cell (p := ⟨w.heap.size, 7, none⟩) (by simp)).trans (HC.out 7 _ rfl)
  have f8 : w2.cell? ⟨w.heap.size, 8, none⟩ = some (.bool nnbf) := (hbX.cell (p := ⟨w.heap.size, 8, none⟩) (by simp)).trans (HC.out 8 _ rfl)
  have f9 : w2.cell? ⟨w.heap.size, 9, none⟩ = some (.bool iat) := (hbX.cell (p := ⟨w.heap.size, 9, none⟩) (by simp)).trans (HC.out 9 _ rfl)
  have f10 : w2.cell? ⟨w.heap.size, 10, none⟩ = some (.bool un) := (hbX.cell (p := ⟨w.heap.size, 10, none⟩) (by simp)).trans (HC.out 10 _ rfl)
  have f11 : w2.cell? ⟨w.heap.size, 11, none⟩ = some (.bool pad) := (hbX.cell (p := ⟨w.heap.size, 11, none⟩) (by simp)).trans (HC.out 11 _ rfl)
  have f12 : w2.cell? ⟨w.heap.size, 12, none⟩ = some (.bool str) := (hbX.cell (p := ⟨w.heap.size, 12, none⟩) (by simp)).trans (HC.out 12 _ rfl)
  clear hbX hs1
  go_wp2_with fail
  refine (H34.out _ HBW2.out).mono ?_
  rintro e w3 hopt
  obtain ⟨g, m, c, rfl, hb3, hcall⟩ := HNV.out _ _ _ hopt
  have HCALL := Lib.hid hcall
  have HBW3 := Lib.hid (HBW2.out.trans (hb3.mono HBW2.out.size)); clear hb3 hcall hopt
  clear f0 f1 f2 f3 f4 f5 f6 f7 f8 f9 f10 f11 f12
  go_wp2_with fail
  refine HCALL.out.mono ?_
  rintro e w4 ⟨v, bs, wa, wc, rfl, hvld, hb4⟩
  have HVLD := Lib.hid hvld; clear hvld
  have HBW4 := Lib.hid (HBW3.out.trans (hb4.mono HBW3.out.size)); clear hb4
  go_wp2_with fail
  refine (claimsOf_fine a n cap cs _ (HM.out.below HBW4.out) HF.out).mono ?_
  rintro e w5 ⟨bm, rfl, hmap, hb5⟩
  have HVLD5 := Lib.hid (HVLD.out.below hb5)
  have HMAP := Lib.hid hmap; clear hmap
  have HBW5 := Lib.hid (HBW4.out.trans (hb5.mono HBW4.out.size)); clear hb5 HVLD
  go_wp2_with fail
  refine (HV.out v bm bs wa wc _ (HSE.out.below HBW5.out) HMAP.out HVLD5.out).mono ?_
  rintro e w6 hgv
  have hb6 := hgv.below
  have HBW6 := Lib.hid (HBW5.out.trans (hb6.mono HBW5.out.size)); clear hb6
  obtain ⟨x, rfl, hcall⟩ := numbersOf_v se KS _ w6 e (HSE.out.below HBW6.out) HLEN.out HLT.out hgv
  have HCALL2 := Lib.hid hcall; clear hcall hgv
  go_wp2_with fail
  refine HCALL2.out.mono ?_
  rintro e w7 ⟨sl, rfl, hown, hb7⟩
  have HOWN := Lib.hid (owns_mono hown HBW6.out.size)
  have HBW7 := Lib.hid (HBW6.out.trans (hb7.mono HBW6.out.size)); clear hb7 hown
  go_wp2
  go_ret
  exact ⟨_, rfl, HOWN.out, HBW7.out⟩
end Go.Proofs.YtgaaehpmbkjhlaaGreatDoor
