/- spec.Wrong tells the numbers of what is wrong with right claims. -/
import Derived.Test.YtgaaehpmbkjhlaaGreatDoorWTimes
namespace Go.Proofs.YtgaaehpmbkjhlaaGreatDoor
open Go Go.RowKit

theorem hasS_e (t : ByteArray) : hasS t = !t.toList.isEmpty := by
  unfold hasS
  cases t.toList <;> rfl

/-- Texts of the call's own, as texts in memory. -/
theorem strs_of_own {w : World} {B : Nat} {sl : Value} {ss : List ByteArray} (h : w.ownsRow B 9 1 sl ss.length (ss.map Value.string)) : ∃ A c, sl = .slice A ss.length c ∧ StrsAt w A ss.length ss := by
  rcases h.2 with ⟨rfl, h0⟩ | ⟨g, cap, cur, rfl, _, hh, _⟩
  · exact ⟨none, 0, by rw [h0], rfl, fun h => absurd h0 h⟩
  · refine ⟨_, _, rfl, rfl, fun _ => ⟨g, 0, rfl, (Array.getElem?_eq_some_iff.1 hh).1, fun j hj => ?_⟩⟩
    have := h.cells (g := g) rfl j (.string ss[j]) (by simp [hj])
    rw [Addr.add_mid] at this
    simpa using this

set_option maxRecDepth 100000 in
set_option maxHeartbeats 8000000 in
theorem wrong_gives (s : St) (a : Option Addr) (n cap : Nat) (cs : List Cl) (w : World) (hm : CsAt w a n cs) (hv : Valid cs) (hA : Asked s) (hs : StAt w s) : Calls Tryz.prog 15 #[.agg s.vals, .slice a n cap] w (GivesInts (truthsTo (WF s cs) 16) w) := by
  have hd := (valid_fine hv hm.lens).d
  have haud := aud_is hv hm.lens
  have hal10 := hA.a.1
  have HS := Lib.hid hs; clear hs
  have HM := Lib.hid hm; clear hm
  have HV := Lib.hid hv; clear hv
  have HD := Lib.hid hd; clear hd
  have HAUD := Lib.hid haud; clear haud
  have HA := Lib.hid hA; clear hA
  have h36 : ∀ (w0 W : World) (bm : Nat), CsAt w0 a n cs → Below w0.heap.size w0 W → w0.heap.size ≤ bm → WMap W bm (FF false false false false false false false) → _ := fun w0 W bm h1 h2 h3 h4 => times_gives s a n cap cs w0 W bm h1 HV.out HA.out h2 h3 h4
  have gM5 : ∀ v o, FoundV cs ISS v o → m5 s cs = (hasS s.iss && !o) := fun v o h => by unfold m5; rw [h.no]
  have gM6 : ∀ v o, FoundV cs SUB v o → m6 s cs = (hasS s.sub && !o) := fun v o h => by unfold m6; rw [h.no]
  have gB5 : ∀ v o, FoundV cs ISS v o → b5 s cs = (hasS s.iss && (o && !(v.t.toList == s.iss.toList))) := fun v o h => by unfold b5; rw [← h.is fun v => !(v.t.toList == s.iss.toList)]
  have gB6 : ∀ v o, FoundV cs SUB v o → b6 s cs = (hasS s.sub && (o && !(v.t.toList == s.sub.toList))) := fun v o h => by unfold b6; rw [← h.is fun v => !(v.t.toList == s.sub.toList)]
  have gM4 : m4 s cs = (decide (0 < s.al) && decide ((audOf cs).length = 0)) := rfl
  have gB4 : b4 s cs = (decide (0 < s.al) && (decide (0 < (audOf cs).length) && (decide ((s.auds.filter fun x => hasT (audOf cs) x).length = 0) || (s.all && decide ((s.auds.filter fun x => hasT (audOf cs) x).length < s.al))))) := rfl
  have hWF : WF s cs = FF ((((m1 s cs || m2 s cs) || m5 s cs) || m6 s cs) || m4 s cs) (b4 s cs) (b1 s cs) (b3 s cs) (b5 s cs) (b6 s cs) (b2 s cs) := rfl
  generalize WF s cs = F at hWF ⊢
  generalize (m1 s cs || m2 s cs) = P2 at h36 hWF
  generalize b1 s cs = B1 at h36 hWF
  generalize b2 s cs = B2 at h36 hWF
  generalize b3 s cs = B3 at h36 hWF
  generalize m5 s cs = M5 at gM5 hWF
  generalize m6 s cs = M6 at gM6 hWF
  generalize m4 s cs = M4 at gM4 hWF
  generalize b5 s cs = B5 at gB5 hWF
  generalize b6 s cs = B6 at gB6 hWF
  generalize b4 s cs = B4 at gB4 hWF
  generalize audOf cs = ss at HAUD gM4 gB4
  have HWF := Lib.hid hWF; clear hWF
  have H36 := Lib.hid h36; clear h36
  have GM5 := Lib.hid gM5; clear gM5
  have GM6 := Lib.hid gM6; clear gM6
  have HM4 := Lib.hid gM4; clear gM4
  have GB5 := Lib.hid gB5; clear gB5
  have GB6 := Lib.hid gB6; clear gB6
  have HB4 := Lib.hid gB4; clear gB4
  have hmm := @run_makeMap Tryz.prog
  obtain ⟨now, leeway, ma, ml, mc, ms, aa, al, ac, auds, all, iss, sub, nexp, nnbf, iat, un, pad, str⟩ := s
  simp only at GM5 GM6 GB5 GB6 HM4 HB4 hal10
  unfold St.vals at H36 ⊢
  simp only at H36 ⊢
  have hc : ∀ i u, #[.int .i64 now, .int .i64 leeway, .slice ma ml mc, .slice aa al ac, .bool all, .string iss, .string sub, .bool nexp, .bool nnbf, .bool iat, .bool un, .bool pad, .bool str][i]? = some u → (w.alloc (.cells #[.int .i64 now, .int .i64 leeway, .slice ma ml mc, .slice aa al ac, .bool all, .string iss, .string sub, .bool nexp, .bool nnbf, .bool iat, .bool un, .bool pad, .bool str] 38)).cell? ⟨w.heap.size, i, none⟩ = some u := fun i u hi => by
    simp only [World.cell?, heap_alloc_new]; simpa using hi
  have f0 : ((w.alloc (.cells #[.int .i64 now, .int .i64 leeway, .slice ma ml mc, .slice aa al ac, .bool all, .string iss, .string sub, .bool nexp, .bool nnbf, .bool iat, .bool un, .bool pad, .bool str] 38)).alloc (.map #[] 0)).cell? ⟨w.heap.size, 0, none⟩ = some (.int .i64 now) := (World.cell?_alloc_lt _ _ _ (by simp)).trans (hc 0 _ rfl)
  have f1 : ((w.alloc (.cells #[.int .i64 now, .int .i64 leeway, .slice ma ml mc, .slice aa al ac, .bool all, .string iss, .string sub, .bool nexp, .bool nnbf, .bool iat, .bool un, .bool pad, .bool str] 38)).alloc (.map #[] 0)).cell? ⟨w.heap.size, 1, none⟩ = some (.int .i64 leeway) := (World.cell?_alloc_lt _ _ _ (by simp)).trans (hc 1 _ rfl)
  have f2 : ((w.alloc (.cells #[.int .i64 now, .int .i64 leeway, .slice ma ml mc, .slice aa al ac, .bool all, .string iss, .string sub, .bool nexp, .bool nnbf, .bool iat, .bool un, .bool pad, .bool str] 38)).alloc (.map #[] 0)).cell? ⟨w.heap.size, 2, none⟩ = some (.slice ma ml mc) := (World.cell?_alloc_lt _ _ _ (by simp)).trans (hc 2 _ rfl)
  have f3 : ((w.alloc (.cells #[.int .i64 now, .int .i64 leeway, .slice ma ml mc, .slice aa al ac, .bool all, .string iss, .string sub, .bool nexp, .bool nnbf, .bool iat, .bool un, .bool pad, .bool str] 38)).alloc (.map #[] 0)).cell? ⟨w.heap.size, 3, none⟩ = some (.slice aa al ac) := (World.cell?_alloc_lt _ _ _ (by simp)).trans (hc 3 _ rfl)
  have f4 : ((w.alloc (.cells #[.int .i64 now, .int .i64 leeway, .slice ma ml mc, .slice aa al ac, .bool all, .string iss, .string sub, .bool nexp, .bool nnbf, .bool iat, .bool un, .bool pad, .bool str] 38)).alloc (.map #[] 0)).cell? ⟨w.heap.size, 4, none⟩ = some (.bool all) := (World.cell?_alloc_lt _ _ _ (by simp)).trans (hc 4 _ rfl)
  have f5 : ((w.alloc (.cells #[.int .i64 now, .int .i64 leeway, .slice ma ml mc, .slice aa al ac, .bool all, .string iss, .string sub, .bool nexp, .bool nnbf, .bool iat, .bool un, .bool pad, .bool str] 38)).alloc (.map #[] 0)).cell? ⟨w.heap.size, 5, none⟩ = some (.string iss) := (World.cell?_alloc_lt _ _ _ (by simp)).trans (hc 5 _ rfl)
  have f6 : ((w.alloc (.cells #[.int .i64 now, .int .i64 leeway, .slice ma ml mc, .slice aa al ac, .bool all, .string iss, .string sub, .bool nexp, .bool nnbf, .bool iat, .bool un, .bool pad, .bool str] 38)).alloc (.map #[] 0)).cell? ⟨w.heap.size, 6, none⟩ = some (.string sub) := (World.cell?_alloc_lt _ _ _ (by simp)).trans (hc 6 _ rfl)
  have f7 : ((w.alloc (.cells #[.int .i64 now, .int .i64 leeway, .slice ma ml mc, .slice aa al ac, .bool all, .string iss, .string sub, .bool nexp, .bool nnbf, .bool iat, .bool un, .bool pad, .bool str] 38)).alloc (.map #[] 0)).cell? ⟨w.heap.size, 7, none⟩ = some (.bool nexp) := (World.cell?_alloc_lt _ _ _ (by simp)).trans (hc 7 _ rfl)
  have f8 : ((w.alloc (.cells #[.int .i64 now, .int .i64 leeway, .slice ma ml mc, .slice aa al ac, .bool all, .string iss, .string sub, .bool nexp, .bool nnbf, .bool iat, .bool un, .bool pad, .bool str] 38)).alloc (.map #[] 0)).cell? ⟨w.heap.size, 8, none⟩ = some (.bool nnbf) := (World.cell?_alloc_lt _ _ _ (by simp)).trans (hc 8 _ rfl)
  have f9 : ((w.alloc (.cells #[.int .i64 now, .int .i64 leeway, .slice ma ml mc, .slice aa al ac, .bool all, .string iss, .string sub, .bool nexp, .bool nnbf, .bool iat, .bool un, .bool pad, .bool str] 38)).alloc (.map #[] 0)).cell? ⟨w.heap.size, 9, none⟩ = some (.bool iat) := (World.cell?_alloc_lt _ _ _ (by simp)).trans (hc 9 _ rfl)
  have f10 : ((w.alloc (.cells #[.int .i64 now, .int .i64 leeway, .slice ma ml mc, .slice aa al ac, .bool all, .string iss, .string sub, .bool nexp, .bool nnbf, .bool iat, .bool un, .bool pad, .bool str] 38)).alloc (.map #[] 0)).cell? ⟨w.heap.size, 10, none⟩ = some (.bool un) := (World.cell?_alloc_lt _ _ _ (by simp)).trans (hc 10 _ rfl)
  have f11 : ((w.alloc (.cells #[.int .i64 now, .int .i64 leeway, .slice ma ml mc, .slice aa al ac, .bool all, .string iss, .string sub, .bool nexp, .bool nnbf, .bool iat, .bool un, .bool pad, .bool str] 38)).alloc (.map #[] 0)).cell? ⟨w.heap.size, 11, none⟩ = some (.bool pad) := (World.cell?_alloc_lt _ _ _ (by simp)).trans (hc 11 _ rfl)
  have f12 : ((w.alloc (.cells #[.int .i64 now, .int .i64 leeway, .slice ma ml mc, .slice aa al ac, .bool all, .string iss, .string sub, .bool nexp, .bool nnbf, .bool iat, .bool un, .bool pad, .bool str] 38)).alloc (.map #[] 0)).cell? ⟨w.heap.size, 12, none⟩ = some (.bool str) := (World.cell?_alloc_lt _ _ _ (by simp)).trans (hc 12 _ rfl)
  have hB1 : Below w.heap.size w (w.alloc (.cells #[.int .i64 now, .int .i64 leeway, .slice ma ml mc, .slice aa al ac, .bool all, .string iss, .string sub, .bool nexp, .bool nnbf, .bool iat, .bool un, .bool pad, .bool str] 38)) := below1 _ _
  have hs1 : (w.alloc (.cells #[.int .i64 now, .int .i64 leeway, .slice ma ml mc, .slice aa al ac, .bool all, .string iss, .string sub, .bool nexp, .bool nnbf, .bool iat, .bool un, .bool pad, .bool str] 38)).heap.size = w.heap.size + 1 := by simp
  have hw2 : WMap ((w.alloc (.cells #[.int .i64 now, .int .i64 leeway, .slice ma ml mc, .slice aa al ac, .bool all, .string iss, .string sub, .bool nexp, .bool nnbf, .bool iat, .bool un, .bool pad, .bool str] 38)).alloc (.map #[] 0)) (w.heap.size + 1) (FF false false false false false false false) := by
    have := wmap_new (w.alloc (.cells #[.int .i64 now, .int .i64 leeway, .slice ma ml mc, .slice aa al ac, .bool all, .string iss, .string sub, .bool nexp, .bool nnbf, .bool iat, .bool un, .bool pad, .bool str] 38))
    rw [hs1, ff_start] at this
    exact this
  have h36 := H36.out (w.alloc (.cells #[.int .i64 now, .int .i64 leeway, .slice ma ml mc, .slice aa al ac, .bool all, .string iss, .string sub, .bool nexp, .bool nnbf, .bool iat, .bool un, .bool pad, .bool str] 38)) ((w.alloc (.cells #[.int .i64 now, .int .i64 leeway, .slice ma ml mc, .slice aa al ac, .bool all, .string iss, .string sub, .bool nexp, .bool nnbf, .bool iat, .bool un, .bool pad, .bool str] 38)).alloc (.map #[] 0)) (w.heap.size + 1) (HM.out.below hB1) (below1 _ _) (by rw [hs1]; exact Nat.le_refl _) hw2
  rw [hs1] at h36
  have HT := Lib.hid h36; clear h36 hw2 H36
  have HB1 := Lib.hid hB1; clear hB1
  have hk0 := hc 3 _ rfl
  have hk1 := hc 4 _ rfl
  have hk2 := hc 5 _ rfl
  have hk3 := hc 6 _ rfl
  have HK := Lib.hid (And.intro hk0 (And.intro hk1 (And.intro hk2 hk3)))
  clear hc hk0 hk1 hk2 hk3
  go_enter Tryz.func15, Tryz.ntmps15
  go_wp2_with fail
  refine HT.out.mono ?_
  rintro e w3 ⟨rfl, hw3, hb3⟩
  clear HT f0 f1 f2 f3 f4 f5 f6 f7 f8 f9 f10 f11 f12 hmm
  have hz3 := hw3.lt
  have HW3 := Lib.hid hw3; clear hw3
  have HB3b := Lib.hid hb3
  have HBW3 := Lib.hid (HB1.out.trans (hb3.mono (by omega))); clear hb3
  go_wp2_with fail
  refine (find_is a n cap cs ISS _ (HM.out.below HBW3.out) HD.out).mono ?_
  rintro e w4 ⟨⟨k4, t4, x4, la4, ln4, lc4⟩, o4, rfl, hf4, hb4⟩
  have HM5 := Lib.hid (GM5.out _ _ hf4); have HB5 := Lib.hid (GB5.out _ _ hf4); clear hf4
  have hz4 : w3.heap.size ≤ w4.heap.size := hb4.size
  have HB34 := Lib.hid hb4; clear hb4
  unfold V.agg
  simp only at HB5
  go_wp2_with fail
  have hbw4 : Below w.heap.size w (w4.alloc (.cells #[.int .i64 k4, .string t4, .int .i64 x4, .slice la4 ln4 lc4] 27)) := (HBW3.out.trans (HB34.out.mono (by omega))).alloc (by omega) _
  have HBW4 := Lib.hid hbw4; clear hbw4
  refine (find_is a n cap cs SUB _ (HM.out.below HBW4.out) HD.out).mono ?_
  rintro e w5 ⟨⟨k5, t5, x5, la5, ln5, lc5⟩, o5, rfl, hf5, hb5⟩
  have HM6 := Lib.hid (GM6.out _ _ hf5); have HB6 := Lib.hid (GB6.out _ _ hf5); clear hf5
  have hz5 : w4.heap.size + 1 ≤ w5.heap.size := by have := hb5.size; simpa using this
  unfold V.agg
  simp only at HB6
  have hbx : Below w.heap.size w (w5.alloc (.cells #[.int .i64 k5, .string t5, .int .i64 x5, .slice la5 ln5 lc5] 27)) := (HBW4.out.trans (hb5.mono (by simp; omega))).alloc (by omega) _
  have hbx3 : Below w3.heap.size w3 (w5.alloc (.cells #[.int .i64 k5, .string t5, .int .i64 x5, .slice la5 ln5 lc5] 27)) := ((HB34.out.alloc (by omega) _).trans (hb5.mono (by simp; omega))).alloc (by omega) _
  have hbx4 : Below (w4.heap.size + 1) (w4.alloc (.cells #[.int .i64 k4, .string t4, .int .i64 x4, .slice la4 ln4 lc4] 27)) (w5.alloc (.cells #[.int .i64 k5, .string t5, .int .i64 x5, .slice la5 ln5 lc5] 27)) := (hb5.mono (by simp)).alloc (by omega) _
  have ht4 : (w5.alloc (.cells #[.int .i64 k5, .string t5, .int .i64 x5, .slice la5 ln5 lc5] 27)).cell? ⟨w4.heap.size, 1, none⟩ = some (.string t4) := (hbx4.cell (p := ⟨w4.heap.size, 1, none⟩) (by simp)).trans (by simp [go_sem])
  have ht5 : (w5.alloc (.cells #[.int .i64 k5, .string t5, .int .i64 x5, .slice la5 ln5 lc5] 27)).cell? ⟨w5.heap.size, 1, none⟩ = some (.string t5) := by simp [go_sem]
  have hbox : (w5.alloc (.cells #[.int .i64 k5, .string t5, .int .i64 x5, .slice la5 ln5 lc5] 27)).cell? ⟨w.heap.size, 5, none⟩ = some (.string iss) ∧ (w5.alloc (.cells #[.int .i64 k5, .string t5, .int .i64 x5, .slice la5 ln5 lc5] 27)).cell? ⟨w.heap.size, 6, none⟩ = some (.string sub) ∧ (w5.alloc (.cells #[.int .i64 k5, .string t5, .int .i64 x5, .slice la5 ln5 lc5] 27)).cell? ⟨w.heap.size, 3, none⟩ = some (.slice aa al ac) ∧ (w5.alloc (.cells #[.int .i64 k5, .string t5, .int .i64 x5, .slice la5 ln5 lc5] 27)).cell? ⟨w.heap.size, 4, none⟩ = some (.bool all) := by
    obtain ⟨k0, k1, k2, k3⟩ := HK.out
    have hq : ∀ i u, (w.alloc (.cells #[.int .i64 now, .int .i64 leeway, .slice ma ml mc, .slice aa al ac, .bool all, .string iss, .string sub, .bool nexp, .bool nnbf, .bool iat, .bool un, .bool pad, .bool str] 38)).cell? ⟨w.heap.size, i, none⟩ = some u → (w5.alloc (.cells #[.int .i64 k5, .string t5, .int .i64 x5, .slice la5 ln5 lc5] 27)).cell? ⟨w.heap.size, i, none⟩ = some u := fun i u hu =>
      (hbx3.cell (p := ⟨w.heap.size, i, none⟩) (by simp; omega)).trans ((HB3b.out.cell (p := ⟨w.heap.size, i, none⟩) (by simp)).trans hu)
    exact ⟨hq _ _ k2, hq _ _ k3, hq _ _ k0, hq _ _ k1⟩
  have hwx := HW3.out.below hbx3
  clear hb5 hbx3 hbx4 HB34 HB3b HK HW3 HBW3 HBW4
  go_upto_region 5 with fail
  obtain ⟨bm, hbm⟩ : ∃ bm, bm = w.heap.size + 1 := ⟨_, rfl⟩
  rw [← hbm] at hwx ⊢
  generalize w5.alloc (.cells #[.int .i64 k5, .string t5, .int .i64 x5, .slice la5 ln5 lc5] 27) = X at ht4 ht5 hbox hbx hwx ⊢
  have nb0 : w.heap.size ≠ bm := by omega
  have nb4 : w4.heap.size ≠ bm := by omega
  have nb5 : w5.heap.size ≠ bm := by omega
  have hble : w.heap.size ≤ bm := by omega
  have HBX := Lib.hid hbx; clear hbx
  have HT4 := Lib.hid ht4; clear ht4
  have HT5 := Lib.hid ht5; clear ht5
  have HBOX := Lib.hid hbox; clear hbox
  have HW1 := Lib.hid hwx; clear hwx
  have HP1 : Hid (PutAt bm X X) := Lib.hid (PutAt.refl _ _)
  clear hbm hs1
  obtain ⟨X1, hX1⟩ : ∃ X1, X1 = X := ⟨_, rfl⟩
  rw [← hX1] at HW1 ⊢
  have HP1 : Hid (PutAt bm X X1) := by rw [hX1]; exact HP1
  clear hX1
  have c1 := HP1.out.cell HBOX.out.1 nb0
  have d1 := HP1.out.cell HT4.out nb4
  go_upto_if 33 with fail
  go_cut [] from 33 to 49 (fun wx => WMap wx bm (FF (P2 || M5) false B1 B3 B5 false B2) ∧ PutAt bm X wx)
  case first =>
    generalize hE : (!iss.toList.isEmpty) = bE
    have HE := Lib.hid hE; clear hE
    have hm5 := HM5.out; have hb5 := HB5.out
    rw [hasS_e, HE.out] at hm5 hb5
    cases bE
    · have HX1 : Hid (M5 = false) := Lib.hid (by rw [hm5]; rfl)
      have HX2 : Hid (B5 = false) := Lib.hid (by rw [hb5]; rfl)
      clear hm5 hb5
      go_wp2_with fail
      go_meet
      case rel => exact ⟨wmap_eq HW1.out (by rw [HX1.out, HX2.out, Bool.or_false]), HP1.out⟩
    · have HX1 := Lib.hid hm5; have HX2 := Lib.hid hb5
      clear hm5 hb5
      cases P2 <;> cases o4
      · obtain ⟨oA, hA, wA⟩ := put_int HW1.out 4 true
        have hlk : (Instr.lookup 75 (.map (some bm)) (.int .i64 4) false).run Tryz.prog X1 = .ok (.bool false) X1 := look_int HW1.out 4
        have ca := (putMap_cell (w := X1) (o := oA) nb0).trans c1
        have da := (putMap_cell (w := X1) (o := oA) nb4).trans d1
        obtain ⟨oB, hB, wB⟩ := put_int wA 8 false
        have WB := Lib.hid wB; clear wA wB
        have HY1 : Hid (M5 = true) := Lib.hid (by rw [HX1.out]; rfl)
        have HY2 : Hid (B5 = false) := Lib.hid (by rw [HX2.out]; rfl)
        clear HX1 HX2
        go_wp2_with fail
        go_meet
        case rel => exact ⟨wmap_eq WB.out (by rw [upd4, upd8, HY1.out, HY2.out]; rfl), (HP1.out.put _).put _⟩
      · obtain ⟨oA, hA, wA⟩ := put_int HW1.out 4 false
        have hlk : (Instr.lookup 75 (.map (some bm)) (.int .i64 4) false).run Tryz.prog X1 = .ok (.bool false) X1 := look_int HW1.out 4
        have ca := (putMap_cell (w := X1) (o := oA) nb0).trans c1
        have da := (putMap_cell (w := X1) (o := oA) nb4).trans d1
        rcases Bool.eq_false_or_eq_true (t4.toList == iss.toList) with hq | hq
        · obtain ⟨oB, hB, wB⟩ := put_int wA 8 false
          have WB := Lib.hid wB; clear wA wB
          have HY1 : Hid (M5 = false) := Lib.hid (by rw [HX1.out]; rfl)
          have HY2 : Hid (B5 = false) := Lib.hid (by rw [HX2.out, hq]; rfl)
          clear HX1 HX2
          go_wp2_with fail
          go_meet
          case rel => exact ⟨wmap_eq WB.out (by rw [upd4, upd8, HY1.out, HY2.out]; rfl), (HP1.out.put _).put _⟩
        · obtain ⟨oB, hB, wB⟩ := put_int wA 8 true
          have WB := Lib.hid wB; clear wA wB
          have HY1 : Hid (M5 = false) := Lib.hid (by rw [HX1.out]; rfl)
          have HY2 : Hid (B5 = true) := Lib.hid (by rw [HX2.out, hq]; rfl)
          clear HX1 HX2
          go_wp2_with fail
          go_meet
          case rel => exact ⟨wmap_eq WB.out (by rw [upd4, upd8, HY1.out, HY2.out]; rfl), (HP1.out.put _).put _⟩
      · obtain ⟨oA, hA, wA⟩ := put_int HW1.out 4 true
        have hlk : (Instr.lookup 75 (.map (some bm)) (.int .i64 4) false).run Tryz.prog X1 = .ok (.bool true) X1 := look_int HW1.out 4
        have ca := (putMap_cell (w := X1) (o := oA) nb0).trans c1
        have da := (putMap_cell (w := X1) (o := oA) nb4).trans d1
        obtain ⟨oB, hB, wB⟩ := put_int wA 8 false
        have WB := Lib.hid wB; clear wA wB
        have HY1 : Hid (M5 = true) := Lib.hid (by rw [HX1.out]; rfl)
        have HY2 : Hid (B5 = false) := Lib.hid (by rw [HX2.out]; rfl)
        clear HX1 HX2
        go_wp2_with fail
        go_meet
        case rel => exact ⟨wmap_eq WB.out (by rw [upd4, upd8, HY1.out, HY2.out]; rfl), (HP1.out.put _).put _⟩
      · obtain ⟨oA, hA, wA⟩ := put_int HW1.out 4 true
        have hlk : (Instr.lookup 75 (.map (some bm)) (.int .i64 4) false).run Tryz.prog X1 = .ok (.bool true) X1 := look_int HW1.out 4
        have ca := (putMap_cell (w := X1) (o := oA) nb0).trans c1
        have da := (putMap_cell (w := X1) (o := oA) nb4).trans d1
        rcases Bool.eq_false_or_eq_true (t4.toList == iss.toList) with hq | hq
        · obtain ⟨oB, hB, wB⟩ := put_int wA 8 false
          have WB := Lib.hid wB; clear wA wB
          have HY1 : Hid (M5 = false) := Lib.hid (by rw [HX1.out]; rfl)
          have HY2 : Hid (B5 = false) := Lib.hid (by rw [HX2.out, hq]; rfl)
          clear HX1 HX2
          go_wp2_with fail
          go_meet
          case rel => exact ⟨wmap_eq WB.out (by rw [upd4, upd8, HY1.out, HY2.out]; rfl), (HP1.out.put _).put _⟩
        · obtain ⟨oB, hB, wB⟩ := put_int wA 8 true
          have WB := Lib.hid wB; clear wA wB
          have HY1 : Hid (M5 = false) := Lib.hid (by rw [HX1.out]; rfl)
          have HY2 : Hid (B5 = true) := Lib.hid (by rw [HX2.out, hq]; rfl)
          clear HX1 HX2
          go_wp2_with fail
          go_meet
          case rel => exact ⟨wmap_eq WB.out (by rw [upd4, upd8, HY1.out, HY2.out]; rfl), (HP1.out.put _).put _⟩
  case rest =>
  clear HW1 HP1 c1 d1 HM5 HB5
  obtain ⟨X2, hX2⟩ : ∃ X2, X2 = wc := ⟨_, rfl⟩
  rw [← hX2] at hcut ⊢
  clear hX2
  obtain ⟨hW2, hP2⟩ := hcut
  have HW2 := Lib.hid hW2; clear hW2
  have HP2 := Lib.hid hP2; clear hP2
  obtain ⟨P5, hP5⟩ : ∃ P5, P5 = (P2 || M5) := ⟨_, rfl⟩
  have hWF2 := HWF.out
  rw [← hP5] at HW2 hWF2
  have HWF2 := Lib.hid hWF2
  clear hP5 hWF2 HWF
  have c2 := HP2.out.cell HBOX.out.2.1 nb0
  have d2 := HP2.out.cell HT5.out nb5
  go_upto_if 52 with fail
  go_cut [] from 52 to 68 (fun wx => WMap wx bm (FF (P5 || M6) false B1 B3 B5 B6 B2) ∧ PutAt bm X wx)
  case first =>
    generalize hE : (!sub.toList.isEmpty) = bE
    have HE := Lib.hid hE; clear hE
    have hm5 := HM6.out; have hb5 := HB6.out
    rw [hasS_e, HE.out] at hm5 hb5
    cases bE
    · have HX1 : Hid (M6 = false) := Lib.hid (by rw [hm5]; rfl)
      have HX2 : Hid (B6 = false) := Lib.hid (by rw [hb5]; rfl)
      clear hm5 hb5
      go_wp2_with fail
      go_meet
      case rel => exact ⟨wmap_eq HW2.out (by rw [HX1.out, HX2.out, Bool.or_false]), HP2.out⟩
    · have HX1 := Lib.hid hm5; have HX2 := Lib.hid hb5
      clear hm5 hb5
      cases P5 <;> cases o5
      · obtain ⟨oA, hA, wA⟩ := put_int HW2.out 4 true
        have hlk : (Instr.lookup 75 (.map (some bm)) (.int .i64 4) false).run Tryz.prog X2 = .ok (.bool false) X2 := look_int HW2.out 4
        have ca := (putMap_cell (w := X2) (o := oA) nb0).trans c2
        have da := (putMap_cell (w := X2) (o := oA) nb5).trans d2
        obtain ⟨oB, hB, wB⟩ := put_int wA 9 false
        have WB := Lib.hid wB; clear wA wB
        have HY1 : Hid (M6 = true) := Lib.hid (by rw [HX1.out]; rfl)
        have HY2 : Hid (B6 = false) := Lib.hid (by rw [HX2.out]; rfl)
        clear HX1 HX2
        go_wp2_with fail
        go_meet
        case rel => exact ⟨wmap_eq WB.out (by rw [upd4, upd9, HY1.out, HY2.out]; rfl), (HP2.out.put _).put _⟩
      · obtain ⟨oA, hA, wA⟩ := put_int HW2.out 4 false
        have hlk : (Instr.lookup 75 (.map (some bm)) (.int .i64 4) false).run Tryz.prog X2 = .ok (.bool false) X2 := look_int HW2.out 4
        have ca := (putMap_cell (w := X2) (o := oA) nb0).trans c2
        have da := (putMap_cell (w := X2) (o := oA) nb5).trans d2
        rcases Bool.eq_false_or_eq_true (t5.toList == sub.toList) with hq | hq
        · obtain ⟨oB, hB, wB⟩ := put_int wA 9 false
          have WB := Lib.hid wB; clear wA wB
          have HY1 : Hid (M6 = false) := Lib.hid (by rw [HX1.out]; rfl)
          have HY2 : Hid (B6 = false) := Lib.hid (by rw [HX2.out, hq]; rfl)
          clear HX1 HX2
          go_wp2_with fail
          go_meet
          case rel => exact ⟨wmap_eq WB.out (by rw [upd4, upd9, HY1.out, HY2.out]; rfl), (HP2.out.put _).put _⟩
        · obtain ⟨oB, hB, wB⟩ := put_int wA 9 true
          have WB := Lib.hid wB; clear wA wB
          have HY1 : Hid (M6 = false) := Lib.hid (by rw [HX1.out]; rfl)
          have HY2 : Hid (B6 = true) := Lib.hid (by rw [HX2.out, hq]; rfl)
          clear HX1 HX2
          go_wp2_with fail
          go_meet
          case rel => exact ⟨wmap_eq WB.out (by rw [upd4, upd9, HY1.out, HY2.out]; rfl), (HP2.out.put _).put _⟩
      · obtain ⟨oA, hA, wA⟩ := put_int HW2.out 4 true
        have hlk : (Instr.lookup 75 (.map (some bm)) (.int .i64 4) false).run Tryz.prog X2 = .ok (.bool true) X2 := look_int HW2.out 4
        have ca := (putMap_cell (w := X2) (o := oA) nb0).trans c2
        have da := (putMap_cell (w := X2) (o := oA) nb5).trans d2
        obtain ⟨oB, hB, wB⟩ := put_int wA 9 false
        have WB := Lib.hid wB; clear wA wB
        have HY1 : Hid (M6 = true) := Lib.hid (by rw [HX1.out]; rfl)
        have HY2 : Hid (B6 = false) := Lib.hid (by rw [HX2.out]; rfl)
        clear HX1 HX2
        go_wp2_with fail
        go_meet
        case rel => exact ⟨wmap_eq WB.out (by rw [upd4, upd9, HY1.out, HY2.out]; rfl), (HP2.out.put _).put _⟩
      · obtain ⟨oA, hA, wA⟩ := put_int HW2.out 4 true
        have hlk : (Instr.lookup 75 (.map (some bm)) (.int .i64 4) false).run Tryz.prog X2 = .ok (.bool true) X2 := look_int HW2.out 4
        have ca := (putMap_cell (w := X2) (o := oA) nb0).trans c2
        have da := (putMap_cell (w := X2) (o := oA) nb5).trans d2
        rcases Bool.eq_false_or_eq_true (t5.toList == sub.toList) with hq | hq
        · obtain ⟨oB, hB, wB⟩ := put_int wA 9 false
          have WB := Lib.hid wB; clear wA wB
          have HY1 : Hid (M6 = false) := Lib.hid (by rw [HX1.out]; rfl)
          have HY2 : Hid (B6 = false) := Lib.hid (by rw [HX2.out, hq]; rfl)
          clear HX1 HX2
          go_wp2_with fail
          go_meet
          case rel => exact ⟨wmap_eq WB.out (by rw [upd4, upd9, HY1.out, HY2.out]; rfl), (HP2.out.put _).put _⟩
        · obtain ⟨oB, hB, wB⟩ := put_int wA 9 true
          have WB := Lib.hid wB; clear wA wB
          have HY1 : Hid (M6 = false) := Lib.hid (by rw [HX1.out]; rfl)
          have HY2 : Hid (B6 = true) := Lib.hid (by rw [HX2.out, hq]; rfl)
          clear HX1 HX2
          go_wp2_with fail
          go_meet
          case rel => exact ⟨wmap_eq WB.out (by rw [upd4, upd9, HY1.out, HY2.out]; rfl), (HP2.out.put _).put _⟩
  case rest =>
  clear HW2 HP2 c2 d2 HM6 HB6
  obtain ⟨X3, hX3⟩ : ∃ X3, X3 = wc := ⟨_, rfl⟩
  rw [← hX3] at hcut ⊢
  clear hX3
  obtain ⟨hW3, hP3⟩ := hcut
  have HW3 := Lib.hid hW3; clear hW3
  have HP3 := Lib.hid hP3; clear hP3
  obtain ⟨P6, hP6⟩ : ∃ P6, P6 = (P5 || M6) := ⟨_, rfl⟩
  have hWF3 := HWF2.out
  rw [← hP6] at HW3 hWF3
  have HWF3 := Lib.hid hWF3
  clear hP6 hWF3 HWF2
  have c3 := HP3.out.cell HBOX.out.2.2.1 nb0
  have hbw3 : Below w.heap.size w X3 := HBX.out.trans (HP3.out.below _ hble)
  have HBW3 := Lib.hid hbw3; clear hbw3
  go_upto_if 72 with fail
  go_cut [] from 72 to 114 (fun wx => WMap wx bm (FF (P6 || M4) B4 B1 B3 B5 B6 B2) ∧ Below w.heap.size w wx)
  case first =>
    generalize hE : decide (0 < al) = bE
    have HE := Lib.hid hE; clear hE
    cases bE
    · have HX1 : Hid (M4 = false) := Lib.hid (by rw [HM4.out, HE.out]; rfl)
      have HX2 : Hid (B4 = false) := Lib.hid (by rw [HB4.out, HE.out]; rfl)
      go_wp2_with fail
      go_meet
      case rel => exact ⟨wmap_eq HW3.out (by rw [HX1.out, HX2.out, Bool.or_false]), HBW3.out⟩
    · have hpos : 0 < al := of_decide_eq_true HE.out
      go_wp2_with fail
      refine (specAud_is a n cap cs ss _ (HM.out.below HBW3.out) HD.out HAUD.out).mono ?_
      rintro e w6 ⟨sl, rfl, hown, hb6⟩
      obtain ⟨A, c, rfl, hss⟩ := strs_of_own hown
      have hlen50 := HAUD.out.len
      obtain ⟨m, hmm⟩ : ∃ m, m = ss.length := ⟨_, rfl⟩
      rw [← hmm] at hss hlen50 ⊢
      have HMM := Lib.hid hmm; clear hmm hown
      have HSS := Lib.hid hss; clear hss
      have k3 := cell_below (HP3.out.cell HBOX.out.2.2.1 nb0) hb6
      have k4 := cell_below (HP3.out.cell HBOX.out.2.2.2 nb0) hb6
      have HW6 := Lib.hid (HW3.out.below hb6)
      have HBW6 := Lib.hid (HBW3.out.trans (hb6.mono HBW3.out.size))
      clear hb6
      have hstr := HS.out.a.below HBW6.out
      obtain ⟨hslen, hsat⟩ := hstr
      obtain ⟨ab, ao, rfl, _, hsc⟩ := hsat (by show al ≠ 0; omega)
      simp only at hslen hsc
      have HSL := Lib.hid hslen; clear hslen
      have HSC := Lib.hid hsc; clear hsc hsat
      have hhas := fun x => hasT_tells A m c ss x w6 HSS.out (by omega)
      have HHAS := Lib.hid hhas; clear hhas
      go_wp2_with fail
      go_loop [11, 78] (fun q i => ∃ k N : Nat, k ≤ al ∧ i = .int .i64 k ∧ q = .int .i64 N ∧ N ≤ k ∧ N = ((auds.take k).filter fun x => hasT ss x).length) (fun _ i => al - (intOf i).toNat)
      case atStart => exact ⟨0, 0, Nat.zero_le _, rfl, rfl, Nat.le_refl _, by simp⟩
      case round =>
        obtain ⟨k, N, hk, rfl, rfl, hNk, hN⟩ := hrel
        have HN := Lib.hid hN; clear hN
        by_cases hlt : k < al
        · have hk' : k < auds.length := by rw [HSL.out]; exact hlt
          have e0 := HSC.out k hk'
          have htake : auds.take (k + 1) = auds.take k ++ [auds[k]] := List.take_succ_eq_append_getElem hk'
          obtain ⟨x, hx⟩ : ∃ x, x = auds[k] := ⟨_, rfl⟩
          rw [← hx] at e0 htake
          clear hx
          have HTK := Lib.hid htake; clear htake
          have hcall := HHAS.out x
          rcases Bool.eq_false_or_eq_true (hasT ss x) with hb | hb
          · rw [hb] at hcall
            have HCL := Lib.hid hcall; clear hcall
            have HBB := Lib.hid hb; clear hb
            go_wp2_with (first | (go_at_call 37; refine HCL.out.mono ?_; rintro e w' ⟨rfl, rfl⟩) | go_in)
            exact ⟨⟨k + 1, N + 1, by omega, by go_num, by go_num, by omega, by rw [HTK.out, List.filter_append, List.length_append, ← HN.out]; simp [HBB.out]⟩, by simp [intOf]; omega⟩
          · rw [hb] at hcall
            have HCL := Lib.hid hcall; clear hcall
            have HBB := Lib.hid hb; clear hb
            go_wp2_with (first | (go_at_call 37; refine HCL.out.mono ?_; rintro e w' ⟨rfl, rfl⟩) | go_in)
            exact ⟨⟨k + 1, N, by omega, by go_num, rfl, by omega, by rw [HTK.out, List.filter_append, List.length_append, ← HN.out]; simp [HBB.out]⟩, by simp [intOf]; omega⟩
        · obtain rfl : k = al := by omega
          have hN := HN.out
          rw [List.take_of_length_le (by rw [HSL.out]; exact Nat.le_refl _)] at hN
          clear HN
          have hb4 := HB4.out; have hm4 := HM4.out
          rw [← hN, ← HMM.out] at hb4
          rw [← HMM.out] at hm4
          clear hN
          have HB4' := Lib.hid hb4; have HM4' := Lib.hid hm4; clear hb4 hm4 HB4 HM4
          by_cases hm0 : m = 0
          · subst hm0
            have HY1 : Hid (M4 = true) := Lib.hid (by rw [HM4'.out, HE.out]; rfl)
            have HY2 : Hid (B4 = false) := Lib.hid (by rw [HB4'.out, HE.out]; rfl)
            clear HM4' HB4'
            cases P6
            · obtain ⟨oA, hA, wA⟩ := put_int HW6.out 4 true
              obtain ⟨oB, hB, wB⟩ := put_int wA 5 false
              have hlk : (Instr.lookup 75 (.map (some bm)) (.int .i64 4) false).run Tryz.prog w6 = .ok (.bool false) w6 := look_int HW6.out 4
              have ca := (putMap_cell (w := w6) (o := oA) nb0).trans k3
              have cb := (putMap_cell (w := w6) (o := oA) nb0).trans k4
              have WB := Lib.hid wB; clear wA wB
              go_wp2_with fail
              go_meet
              case rel => exact ⟨wmap_eq WB.out (by rw [upd4, upd5, HY1.out, HY2.out]; rfl), putMap_below (putMap_below HBW6.out hble) hble⟩
            · obtain ⟨oA, hA, wA⟩ := put_int HW6.out 4 true
              obtain ⟨oB, hB, wB⟩ := put_int wA 5 false
              have hlk : (Instr.lookup 75 (.map (some bm)) (.int .i64 4) false).run Tryz.prog w6 = .ok (.bool true) w6 := look_int HW6.out 4
              have ca := (putMap_cell (w := w6) (o := oA) nb0).trans k3
              have cb := (putMap_cell (w := w6) (o := oA) nb0).trans k4
              have WB := Lib.hid wB; clear wA wB
              go_wp2_with fail
              go_meet
              case rel => exact ⟨wmap_eq WB.out (by rw [upd4, upd5, HY1.out, HY2.out]; rfl), putMap_below (putMap_below HBW6.out hble) hble⟩
          · have hz : ((m : Int) == 0) = false := by simp; omega
            have hg : decide (0 < m) = true := by simp; omega
            by_cases hN0 : N = 0
            · subst hN0
              have HY1 : Hid (M4 = false) := Lib.hid (by rw [HM4'.out, HE.out, decide_eq_false hm0]; rfl)
              have HY2 : Hid (B4 = true) := Lib.hid (by rw [HB4'.out, HE.out, hg]; rfl)
              clear HM4' HB4'
              cases P6
              · obtain ⟨oA, hA, wA⟩ := put_int HW6.out 4 false
                obtain ⟨oB, hB, wB⟩ := put_int wA 5 true
                have hlk : (Instr.lookup 75 (.map (some bm)) (.int .i64 4) false).run Tryz.prog w6 = .ok (.bool false) w6 := look_int HW6.out 4
                have ca := (putMap_cell (w := w6) (o := oA) nb0).trans k3
                have cb := (putMap_cell (w := w6) (o := oA) nb0).trans k4
                have WB := Lib.hid wB; clear wA wB
                go_wp2_with fail
                go_meet
                case rel => exact ⟨wmap_eq WB.out (by rw [upd4, upd5, HY1.out, HY2.out]; rfl), putMap_below (putMap_below HBW6.out hble) hble⟩
              · obtain ⟨oA, hA, wA⟩ := put_int HW6.out 4 true
                obtain ⟨oB, hB, wB⟩ := put_int wA 5 true
                have hlk : (Instr.lookup 75 (.map (some bm)) (.int .i64 4) false).run Tryz.prog w6 = .ok (.bool true) w6 := look_int HW6.out 4
                have ca := (putMap_cell (w := w6) (o := oA) nb0).trans k3
                have cb := (putMap_cell (w := w6) (o := oA) nb0).trans k4
                have WB := Lib.hid wB; clear wA wB
                go_wp2_with fail
                go_meet
                case rel => exact ⟨wmap_eq WB.out (by rw [upd4, upd5, HY1.out, HY2.out]; rfl), putMap_below (putMap_below HBW6.out hble) hble⟩
            · have hzN : ((N : Int) == 0) = false := by simp; omega
              cases all
              · skip
                have HY1 : Hid (M4 = false) := Lib.hid (by rw [HM4'.out, HE.out, decide_eq_false hm0]; rfl)
                have HY2 : Hid (B4 = false) := Lib.hid (by rw [HB4'.out, HE.out, hg, decide_eq_false hN0]; rfl)
                clear HM4' HB4'
                cases P6
                · obtain ⟨oA, hA, wA⟩ := put_int HW6.out 4 false
                  obtain ⟨oB, hB, wB⟩ := put_int wA 5 false
                  have hlk : (Instr.lookup 75 (.map (some bm)) (.int .i64 4) false).run Tryz.prog w6 = .ok (.bool false) w6 := look_int HW6.out 4
                  have ca := (putMap_cell (w := w6) (o := oA) nb0).trans k3
                  have cb := (putMap_cell (w := w6) (o := oA) nb0).trans k4
                  have WB := Lib.hid wB; clear wA wB
                  go_wp2_with fail
                  go_meet
                  case rel => exact ⟨wmap_eq WB.out (by rw [upd4, upd5, HY1.out, HY2.out]; rfl), putMap_below (putMap_below HBW6.out hble) hble⟩
                · obtain ⟨oA, hA, wA⟩ := put_int HW6.out 4 true
                  obtain ⟨oB, hB, wB⟩ := put_int wA 5 false
                  have hlk : (Instr.lookup 75 (.map (some bm)) (.int .i64 4) false).run Tryz.prog w6 = .ok (.bool true) w6 := look_int HW6.out 4
                  have ca := (putMap_cell (w := w6) (o := oA) nb0).trans k3
                  have cb := (putMap_cell (w := w6) (o := oA) nb0).trans k4
                  have WB := Lib.hid wB; clear wA wB
                  go_wp2_with fail
                  go_meet
                  case rel => exact ⟨wmap_eq WB.out (by rw [upd4, upd5, HY1.out, HY2.out]; rfl), putMap_below (putMap_below HBW6.out hble) hble⟩
              · by_cases hNk : N < k
                · have hnk : decide (N < k) = true := decide_eq_true hNk
                  have HY1 : Hid (M4 = false) := Lib.hid (by rw [HM4'.out, HE.out, decide_eq_false hm0]; rfl)
                  have HY2 : Hid (B4 = true) := Lib.hid (by rw [HB4'.out, HE.out, hg, decide_eq_false hN0, hnk]; rfl)
                  clear HM4' HB4'
                  cases P6
                  · obtain ⟨oA, hA, wA⟩ := put_int HW6.out 4 false
                    obtain ⟨oB, hB, wB⟩ := put_int wA 5 true
                    have hlk : (Instr.lookup 75 (.map (some bm)) (.int .i64 4) false).run Tryz.prog w6 = .ok (.bool false) w6 := look_int HW6.out 4
                    have ca := (putMap_cell (w := w6) (o := oA) nb0).trans k3
                    have cb := (putMap_cell (w := w6) (o := oA) nb0).trans k4
                    have WB := Lib.hid wB; clear wA wB
                    go_wp2_with fail
                    go_meet
                    case rel => exact ⟨wmap_eq WB.out (by rw [upd4, upd5, HY1.out, HY2.out]; rfl), putMap_below (putMap_below HBW6.out hble) hble⟩
                  · obtain ⟨oA, hA, wA⟩ := put_int HW6.out 4 true
                    obtain ⟨oB, hB, wB⟩ := put_int wA 5 true
                    have hlk : (Instr.lookup 75 (.map (some bm)) (.int .i64 4) false).run Tryz.prog w6 = .ok (.bool true) w6 := look_int HW6.out 4
                    have ca := (putMap_cell (w := w6) (o := oA) nb0).trans k3
                    have cb := (putMap_cell (w := w6) (o := oA) nb0).trans k4
                    have WB := Lib.hid wB; clear wA wB
                    go_wp2_with fail
                    go_meet
                    case rel => exact ⟨wmap_eq WB.out (by rw [upd4, upd5, HY1.out, HY2.out]; rfl), putMap_below (putMap_below HBW6.out hble) hble⟩
                · have hnk : decide (N < k) = false := decide_eq_false hNk
                  have HY1 : Hid (M4 = false) := Lib.hid (by rw [HM4'.out, HE.out, decide_eq_false hm0]; rfl)
                  have HY2 : Hid (B4 = false) := Lib.hid (by rw [HB4'.out, HE.out, hg, decide_eq_false hN0, hnk]; rfl)
                  clear HM4' HB4'
                  cases P6
                  · obtain ⟨oA, hA, wA⟩ := put_int HW6.out 4 false
                    obtain ⟨oB, hB, wB⟩ := put_int wA 5 false
                    have hlk : (Instr.lookup 75 (.map (some bm)) (.int .i64 4) false).run Tryz.prog w6 = .ok (.bool false) w6 := look_int HW6.out 4
                    have ca := (putMap_cell (w := w6) (o := oA) nb0).trans k3
                    have cb := (putMap_cell (w := w6) (o := oA) nb0).trans k4
                    have WB := Lib.hid wB; clear wA wB
                    go_wp2_with fail
                    go_meet
                    case rel => exact ⟨wmap_eq WB.out (by rw [upd4, upd5, HY1.out, HY2.out]; rfl), putMap_below (putMap_below HBW6.out hble) hble⟩
                  · obtain ⟨oA, hA, wA⟩ := put_int HW6.out 4 true
                    obtain ⟨oB, hB, wB⟩ := put_int wA 5 false
                    have hlk : (Instr.lookup 75 (.map (some bm)) (.int .i64 4) false).run Tryz.prog w6 = .ok (.bool true) w6 := look_int HW6.out 4
                    have ca := (putMap_cell (w := w6) (o := oA) nb0).trans k3
                    have cb := (putMap_cell (w := w6) (o := oA) nb0).trans k4
                    have WB := Lib.hid wB; clear wA wB
                    go_wp2_with fail
                    go_meet
                    case rel => exact ⟨wmap_eq WB.out (by rw [upd4, upd5, HY1.out, HY2.out]; rfl), putMap_below (putMap_below HBW6.out hble) hble⟩
  case rest =>
  clear HW3 HP3 c3 
  obtain ⟨X4, hX4⟩ : ∃ X4, X4 = wc := ⟨_, rfl⟩
  rw [← hX4] at hcut ⊢
  clear hX4
  obtain ⟨hW4, hP4⟩ := hcut
  have HW4 := Lib.hid hW4; clear hW4
  have HP4 := Lib.hid hP4; clear hP4

  have hw4 := HW4.out
  rw [← HWF3.out] at hw4
  have HWM := Lib.hid hw4; clear hw4 HW4 HWF3 HM4 HB4 HBX HT4 HT5 HBOX HS HA GM5 GM6 GB5 GB6 HAUD
  obtain ⟨i0, hi, hz0, hz1, hz2⟩ := info_parts Tryz.info3
  go_wp2
  go_loopw [14, 15] (fun l i wr => ∃ k : Nat, k ≤ 16 ∧ i = .int .i64 ((k : Int) + 1) ∧ wr.ownsRow X4.heap.size 3 1 l (truthsTo F k).length ((truthsTo F k).map intV) ∧ Below X4.heap.size X4 wr) (fun _ i _ => 17 - (intOf i).toNat)
  case atStart => exact ⟨0, Nat.zero_le _, rfl, World.ownsRow_made X4 #[] 0 (Nat.le_refl _) (by simp) rfl, below1 _ _⟩
  case round =>
    obtain ⟨k, hk, rfl, hown, hb⟩ := hrel
    have HB := Lib.hid hb; clear hb
    have HO := Lib.hid hown; clear hown
    by_cases hlt : k < 16
    · have hszr : X4.heap.size ≤ wr.heap.size := HB.out.size
      have hlen := truthsTo_le F k
      have hlk := look_int (HWM.out.below HB.out) ((k : Int) + 1)
      rcases Bool.eq_false_or_eq_true (F ((k : Int) + 1)) with hf | hf
      · rw [hf] at hlk
        have HN := Lib.hid (truthsTo_yes hf); clear hf
        generalize truthsTo F k = l0 at HO HN hlen
        go_wp2_with (at_builtin; refine wpList_append_own _ rfl _ _ 40 rfl X4.heap.size 3 i0 (.int .i64 0) 1 8 Tryz.underlying40 hi hz0 hz1 hz2 rfl (by decide) _ _ _ rfl (HO.out.alloc _) ⟨wr.heap.size, 0, none⟩ 1 1 [intV (k + 1)] rfl rfl (cell_one_new _ _ _) (fun u hu => by simp at hu; subst hu; rfl) (by unfold maxLen; omega) (by omega) (by simp; omega) ?_; intro v' w3 hown3 hg3 hnil3)
        refine ⟨⟨k + 1, by omega, by go_num, ?_, (HB.out.alloc HB.out.size _).grown hg3 (by simp; omega) (fun g hg => (HO.out.lt g hg).1)⟩, by simp [intOf]; omega⟩
        rw [HN.out]; simpa using hown3
      · rw [hf] at hlk
        have HN := Lib.hid (truthsTo_no hf); clear hf
        generalize truthsTo F k = l0 at HO HN hlen
        go_wp2
        refine ⟨⟨k + 1, by omega, by go_num, ?_, HB.out⟩, by simp [intOf]; omega⟩
        rw [HN.out]; exact HO.out
    · obtain rfl : k = 16 := by omega
      go_wp2
      go_ret
      exact ⟨_, rfl, owns_mono HO.out HP4.out.size, HP4.out.trans (HB.out.mono HP4.out.size)⟩
end Go.Proofs.YtgaaehpmbkjhlaaGreatDoor
