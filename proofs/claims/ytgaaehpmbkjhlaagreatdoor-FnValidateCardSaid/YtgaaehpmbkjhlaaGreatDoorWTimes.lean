/- spec.times tells what is wrong with the dates of right claims. -/
import Derived.Test.YtgaaehpmbkjhlaaGreatDoorVPlain
import Derived.Test.YtgaaehpmbkjhlaaGreatDoorWSet
import Derived.Deep.CutRange
namespace Go.Proofs.YtgaaehpmbkjhlaaGreatDoor
open Go Go.RowKit

/-- What find tells. -/
structure FoundV (cs : List Cl) (s : ByteArray) (v : V) (b : Bool) : Prop where
  or : (b = false ∧ v = zeroV ∧ findC cs s = none) ∨ (b = true ∧ ∃ c, findC cs s = some c ∧ v = c.v)
theorem FoundV.no {cs : List Cl} {s : ByteArray} {v : V} {b : Bool} (h : FoundV cs s v b) : noC cs s = !b := by
  rcases h.or with ⟨rfl, _, e⟩ | ⟨rfl, c, e, _⟩ <;> simp [noC, e]
theorem FoundV.is {cs : List Cl} {s : ByteArray} {v : V} {b : Bool} (h : FoundV cs s v b) (p : V → Bool) : isC cs s (fun c => p c.v) = (b && p v) := by
  rcases h.or with ⟨rfl, _, e⟩ | ⟨rfl, c, e, rfl⟩ <;> simp [isC, e]
theorem find_is (a : Option Addr) (n cap : Nat) (cs : List Cl) (s : ByteArray) (w : World) (hm : CsAt w a n cs) (hd : ∀ i j (h : i < cs.length) (h' : j < cs.length), j < i → cs[i].name ≠ cs[j].name) :
    Calls Tryz.prog 27 #[.slice a n cap, .string s] w fun e w' => ∃ v b, e = .returned (.tuple #[v.agg, .bool b]) ∧ FoundV cs s v b ∧ Below w.heap.size w w' := by
  cases hf : findC cs s with
  | none => exact (find_any_no a n cap cs s w hm hf).mono fun e w' ⟨h1, h2⟩ => ⟨zeroV, false, h1, ⟨.inl ⟨rfl, rfl, hf⟩⟩, h2⟩
  | some c => exact (find_any_yes a n cap cs s w c hm hd hf).mono fun e w' ⟨h1, h2⟩ => ⟨c.v, true, h1, ⟨.inr ⟨rfl, c, hf, rfl⟩⟩, h2⟩
/-- A date that is found is small. -/
theorem FoundV.date {cs : List Cl} {s : ByteArray} {v : V} {b : Bool} (h : FoundV cs s v b) (hv : Valid cs) (hs : s = EXP ∨ s = NBF ∨ s = IAT) : 0 ≤ v.n ∧ v.n ≤ 1099511627776 := by
  rcases h.or with ⟨_, rfl, _⟩ | ⟨_, c, e, rfl⟩
  · exact ⟨by decide, by decide⟩
  · obtain ⟨hm, hn⟩ := findC_mem e
    obtain ⟨_, h1, h2⟩ := ok_date (valid_ok hv hm) (by rw [hn]; exact hs)
    exact ⟨by omega, h2⟩

/-- Only the map at bm may have changed. -/
structure PutAt (bm : Nat) (w w' : World) : Prop where
  size : w'.heap.size = w.heap.size
  keep : ∀ k, k ≠ bm → w'.heap[k]? = w.heap[k]?
  below : ∀ B, B ≤ bm → Below B w w'
theorem PutAt.refl (bm : Nat) (w : World) : PutAt bm w w := ⟨rfl, fun _ _ => rfl, fun B _ => Below.refl B w⟩
theorem PutAt.put {bm : Nat} {w w' : World} (h : PutAt bm w w') (o : Obj) : PutAt bm w (World.putMap w' bm o) :=
  ⟨(putMap_size _ _ _).trans h.size, fun k hk => by
    simp only [World.putMap]
    rw [Array.getElem?_setIfInBounds, if_neg (fun e => hk e.symm)]
    exact h.keep k hk, fun B hB => putMap_below (h.below B hB) hB⟩
theorem PutAt.cell {bm : Nat} {w w' : World} (h : PutAt bm w w') {b i : Nat} {v : Value} (hc : w.cell? ⟨b, i, none⟩ = some v) (hb : b ≠ bm) : w'.cell? ⟨b, i, none⟩ = some v :=
  (World.cell?_of_block (h.keep b hb)).trans hc
theorem wmap_eq {w : World} {bm : Nat} {F G : Int → Bool} (h : WMap w bm F) (e : F = G) : WMap w bm G := e ▸ h

set_option maxRecDepth 100000 in
set_option maxHeartbeats 4000000 in
theorem times_gives (s : St) (a : Option Addr) (n cap : Nat) (cs : List Cl) (w0 w : World) (bm : Nat) (hm : CsAt w0 a n cs) (hv : Valid cs) (hA : Asked s) (hb : Below w0.heap.size w0 w) (hle : w0.heap.size ≤ bm) (hw : WMap w bm (FF false false false false false false false)) :
    Calls Tryz.prog 36 #[.agg s.vals, .slice a n cap, .map (some bm)] w fun e w' => e = .returned (.tuple #[]) ∧ WMap w' bm (FF (m1 s cs || m2 s cs) false (b1 s cs) (b3 s cs) false false (b2 s cs)) ∧ Below w0.heap.size w0 w' := by
  have hd := (valid_fine hv hm.lens).d
  have hlt := hw.lt
  obtain ⟨n1, n2⟩ := hA.now
  obtain ⟨l1, l2⟩ := hA.lee
  have HM := Lib.hid hm; clear hm
  have HV := Lib.hid hv; clear hv
  have HD := Lib.hid hd; clear hd
  have HB := Lib.hid hb; clear hb
  have HW := Lib.hid hw; clear hw
  clear hA
  have gM1 : ∀ v o, FoundV cs EXP v o → m1 s cs = (!o && s.nexp) := fun v o h => by unfold m1; rw [h.no]
  have gM2 : ∀ v o, FoundV cs NBF v o → m2 s cs = (!o && s.nnbf) := fun v o h => by unfold m2; rw [h.no]
  have gB1 : ∀ v o, FoundV cs EXP v o → b1 s cs = (o && decide (v.n + s.leeway / 1000000000 ≤ s.now)) := fun v o h => h.is fun v => decide (v.n + s.lw ≤ s.now)
  have gB2 : ∀ v o, FoundV cs NBF v o → b2 s cs = (o && decide (s.now < v.n - s.leeway / 1000000000)) := fun v o h => h.is fun v => decide (s.now < v.n - s.lw)
  have gB3 : ∀ v o, FoundV cs IAT v o → b3 s cs = (s.iat && (o && decide (s.now < v.n - s.leeway / 1000000000))) := fun v o h => by unfold b3; rw [← h.is fun v => decide (s.now < v.n - s.leeway / 1000000000)]; rfl
  generalize m1 s cs = M1 at gM1 ⊢
  generalize m2 s cs = M2 at gM2 ⊢
  generalize b1 s cs = B1 at gB1 ⊢
  generalize b2 s cs = B2 at gB2 ⊢
  generalize b3 s cs = B3 at gB3 ⊢
  have GM1 := Lib.hid gM1; clear gM1
  have GM2 := Lib.hid gM2; clear gM2
  have GB1 := Lib.hid gB1; clear gB1
  have GB2 := Lib.hid gB2; clear gB2
  have GB3 := Lib.hid gB3; clear gB3
  obtain ⟨now, leeway, ma, ml, mc, ms, aa, al, ac, auds, all, iss, sub, nexp, nnbf, iat, un, pad, str⟩ := s
  simp only at n1 n2 l1 l2 GM1 GM2 GB1 GB2 GB3
  unfold St.vals
  simp only
  have hlw1 : 0 ≤ leeway / 1000000000 := by omega
  have hlw2 : leeway / 1000000000 ≤ 1000000 := by omega
  have hB1 : Below w.heap.size w (w.alloc (.cells #[.int .i64 now, .int .i64 leeway, .slice ma ml mc, .slice aa al ac, .bool all, .string iss, .string sub, .bool nexp, .bool nnbf, .bool iat, .bool un, .bool pad, .bool str] 38)) := below1 _ _
  have HB1 := Lib.hid hB1; clear hB1
  have hc : ∀ i u, #[.int .i64 now, .int .i64 leeway, .slice ma ml mc, .slice aa al ac, .bool all, .string iss, .string sub, .bool nexp, .bool nnbf, .bool iat, .bool un, .bool pad, .bool str][i]? = some u → (w.alloc (.cells #[.int .i64 now, .int .i64 leeway, .slice ma ml mc, .slice aa al ac, .bool all, .string iss, .string sub, .bool nexp, .bool nnbf, .bool iat, .bool un, .bool pad, .bool str] 38)).cell? ⟨w.heap.size, i, none⟩ = some u := fun i u hi => by
    simp only [World.cell?, heap_alloc_new]; simpa using hi
  have e0 := hc 0 _ rfl
  have e7 := hc 7 _ rfl
  have e8 := hc 8 _ rfl
  have e9 := hc 9 _ rfl
  have HE := Lib.hid (And.intro e0 (And.intro e7 (And.intro e8 e9)))
  clear hc e0 e7 e8 e9
  go_enter Tryz.func36, Tryz.ntmps36
  go_wp2_with fail
  refine (find_is a n cap cs EXP _ (HM.out.below (HB.out.trans (HB1.out.mono HB.out.size))) HD.out).mono ?_
  rintro e w1 ⟨⟨k1, t1, x1, la1, ln1, lc1⟩, o1, rfl, hf1, hb1⟩
  obtain ⟨xb1, xb2⟩ := hf1.date HV.out (.inl rfl)
  have HM1 := Lib.hid (GM1.out _ _ hf1); have HQ1 := Lib.hid (GB1.out _ _ hf1); clear hf1
  have hz1 : w.heap.size + 1 ≤ w1.heap.size := by have := hb1.size; simpa using this
  have HBW1 := Lib.hid (HB1.out.trans (hb1.mono HB1.out.size))
  have HBB1 := Lib.hid (hb1.alloc hb1.size (.cells #[.int .i64 k1, .string t1, .int .i64 x1, .slice la1 ln1 lc1] 27)); clear hb1
  unfold V.agg
  simp only at xb1 xb2 HQ1
  go_wp2_with fail
  refine (find_is a n cap cs NBF _ (HM.out.below (HB.out.trans ((HBW1.out.alloc HBW1.out.size _).mono HB.out.size))) HD.out).mono ?_
  rintro e w2 ⟨⟨k2, t2, x2, la2, ln2, lc2⟩, o2, rfl, hf2, hb2⟩
  obtain ⟨xb3, xb4⟩ := hf2.date HV.out (.inr (.inl rfl))
  have HM2 := Lib.hid (GM2.out _ _ hf2); have HQ2 := Lib.hid (GB2.out _ _ hf2); clear hf2
  have hz2 : w1.heap.size + 1 ≤ w2.heap.size := by have := hb2.size; simpa using this
  have hb2' : Below w.heap.size w w2 := (HBW1.out.alloc HBW1.out.size _).trans (hb2.mono (by simp; omega))
  have HBW2 := Lib.hid hb2'; clear hb2'
  have hbb2 : Below (w.heap.size + 1) (w.alloc (.cells #[.int .i64 now, .int .i64 leeway, .slice ma ml mc, .slice aa al ac, .bool all, .string iss, .string sub, .bool nexp, .bool nnbf, .bool iat, .bool un, .bool pad, .bool str] 38)) (w2.alloc (.cells #[.int .i64 k2, .string t2, .int .i64 x2, .slice la2 ln2 lc2] 27)) := (HBB1.out.mono (by simp)).trans ((hb2.mono (by simp; omega)).alloc (by omega) _)
  have HBB2 := Lib.hid hbb2; clear hbb2
  have hbc2 : Below (w1.heap.size + 1) (w1.alloc (.cells #[.int .i64 k1, .string t1, .int .i64 x1, .slice la1 ln1 lc1] 27)) (w2.alloc (.cells #[.int .i64 k2, .string t2, .int .i64 x2, .slice la2 ln2 lc2] 27)) := (hb2.mono (by simp)).alloc (by omega) _
  have HBC2 := Lib.hid hbc2; clear hbc2 hb2
  unfold V.agg
  simp only at xb3 xb4 HQ2
  go_wp2_with fail
  refine (find_is a n cap cs IAT _ (HM.out.below (HB.out.trans ((HBW2.out.alloc HBW2.out.size _).mono HB.out.size))) HD.out).mono ?_
  rintro e w3 ⟨⟨k3, t3, x3, la3, ln3, lc3⟩, o3, rfl, hf3, hb3⟩
  obtain ⟨xb5, xb6⟩ := hf3.date HV.out (.inr (.inr rfl))
  have HQ3 := Lib.hid (GB3.out _ _ hf3); clear hf3
  have hz3 : w2.heap.size + 1 ≤ w3.heap.size := by have := hb3.size; simpa using this
  have hbx : Below w.heap.size w (w3.alloc (.cells #[.int .i64 k3, .string t3, .int .i64 x3, .slice la3 ln3 lc3] 27)) := ((HBW2.out.alloc HBW2.out.size _).trans (hb3.mono (by simp; omega))).alloc (by omega) _
  have hbb3 : Below (w.heap.size + 1) (w.alloc (.cells #[.int .i64 now, .int .i64 leeway, .slice ma ml mc, .slice aa al ac, .bool all, .string iss, .string sub, .bool nexp, .bool nnbf, .bool iat, .bool un, .bool pad, .bool str] 38)) (w3.alloc (.cells #[.int .i64 k3, .string t3, .int .i64 x3, .slice la3 ln3 lc3] 27)) := HBB2.out.trans ((hb3.mono (by simp; omega)).alloc (by omega) _)
  have hbc3 : Below (w1.heap.size + 1) (w1.alloc (.cells #[.int .i64 k1, .string t1, .int .i64 x1, .slice la1 ln1 lc1] 27)) (w3.alloc (.cells #[.int .i64 k3, .string t3, .int .i64 x3, .slice la3 ln3 lc3] 27)) := HBC2.out.trans ((hb3.mono (by simp; omega)).alloc (by omega) _)
  have hbd3 : Below (w2.heap.size + 1) (w2.alloc (.cells #[.int .i64 k2, .string t2, .int .i64 x2, .slice la2 ln2 lc2] 27)) (w3.alloc (.cells #[.int .i64 k3, .string t3, .int .i64 x3, .slice la3 ln3 lc3] 27)) := (hb3.mono (by simp)).alloc (by omega) _
  have f1 : (w3.alloc (.cells #[.int .i64 k3, .string t3, .int .i64 x3, .slice la3 ln3 lc3] 27)).cell? ⟨w1.heap.size, 2, none⟩ = some (.int .i64 x1) := (hbc3.cell (p := ⟨w1.heap.size, 2, none⟩) (by simp)).trans (by simp [go_sem])
  have f2 : (w3.alloc (.cells #[.int .i64 k3, .string t3, .int .i64 x3, .slice la3 ln3 lc3] 27)).cell? ⟨w2.heap.size, 2, none⟩ = some (.int .i64 x2) := (hbd3.cell (p := ⟨w2.heap.size, 2, none⟩) (by simp)).trans (by simp [go_sem])
  have f3 : (w3.alloc (.cells #[.int .i64 k3, .string t3, .int .i64 x3, .slice la3 ln3 lc3] 27)).cell? ⟨w3.heap.size, 2, none⟩ = some (.int .i64 x3) := by simp [go_sem]
  obtain ⟨e0, e7, e8, e9⟩ := HE.out
  have g0 := (hbb3.cell (p := ⟨w.heap.size, 0, none⟩) (by simp)).trans e0
  have g7 := (hbb3.cell (p := ⟨w.heap.size, 7, none⟩) (by simp)).trans e7
  have g8 := (hbb3.cell (p := ⟨w.heap.size, 8, none⟩) (by simp)).trans e8
  have g9 := (hbb3.cell (p := ⟨w.heap.size, 9, none⟩) (by simp)).trans e9
  have hwx := HW.out.below hbx
  clear e0 e7 e8 e9 hb3 hbb3 hbc3 hbd3 HE
  unfold V.agg
  simp only at xb5 xb6 HQ3
  go_upto_region 5 with fail
  generalize w3.alloc (.cells #[.int .i64 k3, .string t3, .int .i64 x3, .slice la3 ln3 lc3] 27) = X at f1 f2 f3 g0 g7 g8 g9 hbx hwx ⊢
  have hbX : Below w0.heap.size w0 X := HB.out.trans (hbx.mono HB.out.size)
  have HBX := Lib.hid hbX; clear hbX hbx
  have nb0 : w.heap.size ≠ bm := by omega
  have nb1 : w1.heap.size ≠ bm := by omega
  have nb2 : w2.heap.size ≠ bm := by omega
  have nb3 : w3.heap.size ≠ bm := by omega
  have HF := Lib.hid (And.intro f1 (And.intro f2 (And.intro f3 (And.intro g0 (And.intro g7 (And.intro g8 g9))))))
  clear f1 f2 f3 g0 g7 g8 g9 HW HB HM HV HD HB1 HBW1 HBB1 HBW2 HBB2 HBC2 GM1 GM2 GB1 GB2 GB3
  have HWX := Lib.hid hwx; clear hwx
  go_cut [] from 31 to 49 (fun wx => WMap wx bm (FF (M1 || M2) false false false false false false) ∧ PutAt bm X wx)
  case first =>
    have hlk : (Instr.lookup 75 (.map (some bm)) (.int .i64 4) false).run Tryz.prog X = .ok (.bool false) X := look_int HWX.out 4
    obtain ⟨oT, hT, wT⟩ := put_int HWX.out 4 true
    obtain ⟨oF, hF, wF⟩ := put_int HWX.out 4 false
    have WT := Lib.hid wT; have WF' := Lib.hid wF; clear wT wF
    obtain ⟨f1, f2, f3, g0, g7, g8, g9⟩ := HF.out
    clear f1 f2 f3 g0 g9
    rw [upd4] at WT WF'
    cases o1 <;> cases nexp <;> cases o2 <;> cases nnbf
    all_goals (go_wp2_with fail; go_meet)
    all_goals
      case rel => first | exact ⟨wmap_eq WT.out (by simp [HM1.out, HM2.out]), (PutAt.refl _ _).put _⟩ | exact ⟨wmap_eq WF'.out (by simp [HM1.out, HM2.out]), (PutAt.refl _ _).put _⟩
  case rest =>
  obtain ⟨X1, hX1⟩ : ∃ X1, X1 = wc := ⟨_, rfl⟩
  rw [← hX1] at hcut ⊢
  clear hX1
  obtain ⟨hW1, hP1⟩ := hcut
  have HW1 := Lib.hid hW1; clear hW1
  have HP1 := Lib.hid hP1; clear hP1
  go_upto_region 6 with fail
  go_cut [] from 50 to 60 (fun wx => WMap wx bm (FF (M1 || M2) false B1 false false false false) ∧ PutAt bm X wx)
  case first =>
    obtain ⟨oT, hT, wT⟩ := put_int HW1.out 6 true
    obtain ⟨oF, hF, wF⟩ := put_int HW1.out 6 false
    have WT := Lib.hid wT; have WF' := Lib.hid wF; clear wT wF
    rw [upd6] at WT WF'
    have c0 := HP1.out.cell HF.out.2.2.2.1 nb0
    have c1 := HP1.out.cell HF.out.1 nb1
    cases o1
    · go_wp2_with fail
      go_meet
      case rel => exact ⟨wmap_eq WF'.out (by simp [HQ1.out]), HP1.out.put _⟩
    · by_cases hlt' : x1 + leeway / 1000000000 ≤ now
      · have HX := Lib.hid (show B1 = true by rw [HQ1.out, decide_eq_true hlt']; rfl)
        go_wp2_with fail
        go_meet
        case rel => exact ⟨wmap_eq WT.out (by rw [HX.out]), HP1.out.put _⟩
      · have HX := Lib.hid (show B1 = false by rw [HQ1.out, decide_eq_false hlt']; rfl)
        go_wp2_with fail
        go_meet
        case rel => exact ⟨wmap_eq WF'.out (by rw [HX.out]), HP1.out.put _⟩
  case rest =>
  obtain ⟨X2, hX2⟩ : ∃ X2, X2 = wc := ⟨_, rfl⟩
  rw [← hX2] at hcut ⊢
  clear hX2
  obtain ⟨hW2, hP2⟩ := hcut
  have HW2 := Lib.hid hW2; clear hW2
  have HP2 := Lib.hid hP2; clear hP2
  clear HW1 HP1
  go_upto_region 7 with fail
  go_cut [] from 61 to 71 (fun wx => WMap wx bm (FF (M1 || M2) false B1 false false false B2) ∧ PutAt bm X wx)
  case first =>
    obtain ⟨oT, hT, wT⟩ := put_int HW2.out 10 true
    obtain ⟨oF, hF, wF⟩ := put_int HW2.out 10 false
    have WT := Lib.hid wT; have WF' := Lib.hid wF; clear wT wF
    rw [upd10] at WT WF'
    have c0 := HP2.out.cell HF.out.2.2.2.1 nb0
    have c1 := HP2.out.cell HF.out.2.1 nb2
    cases o2
    · go_wp2_with fail
      go_meet
      case rel => exact ⟨wmap_eq WF'.out (by simp [HQ2.out]), HP2.out.put _⟩
    · by_cases hlt' : now < x2 - leeway / 1000000000
      · have HX := Lib.hid (show B2 = true by rw [HQ2.out, decide_eq_true hlt']; rfl)
        go_wp2_with fail
        go_meet
        case rel => exact ⟨wmap_eq WT.out (by rw [HX.out]), HP2.out.put _⟩
      · have HX := Lib.hid (show B2 = false by rw [HQ2.out, decide_eq_false hlt']; rfl)
        go_wp2_with fail
        go_meet
        case rel => exact ⟨wmap_eq WF'.out (by rw [HX.out]), HP2.out.put _⟩
  case rest =>
  obtain ⟨X3, hX3⟩ : ∃ X3, X3 = wc := ⟨_, rfl⟩
  rw [← hX3] at hcut ⊢
  clear hX3
  obtain ⟨hW3, hP3⟩ := hcut
  have HW3 := Lib.hid hW3; clear hW3
  have HP3 := Lib.hid hP3; clear hP3
  clear HW2 HP2
  obtain ⟨oT, hT, wT⟩ := put_int HW3.out 7 true
  obtain ⟨oF, hF, wF⟩ := put_int HW3.out 7 false
  have WT := Lib.hid wT; have WF' := Lib.hid wF; clear wT wF
  rw [upd7] at WT WF'
  have c0 := HP3.out.cell HF.out.2.2.2.1 nb0
  have c9 := HP3.out.cell HF.out.2.2.2.2.2.2 nb0
  have c1 := HP3.out.cell HF.out.2.2.1 nb3
  have hbz : ∀ o, Below w0.heap.size w0 (World.putMap X3 bm o) := fun o => HBX.out.trans ((HP3.out.put o).below _ hle)
  have HBZ := Lib.hid hbz; clear hbz
  cases iat
  · go_wp2
    go_returns
    exact ⟨rfl, wmap_eq WF'.out (by simp [HQ3.out]), HBZ.out _⟩
  · cases o3
    · go_wp2
      go_returns
      exact ⟨rfl, wmap_eq WF'.out (by simp [HQ3.out]), HBZ.out _⟩
    · by_cases hlt' : now < x3 - leeway / 1000000000
      · have HX := Lib.hid (show B3 = true by rw [HQ3.out, decide_eq_true hlt']; rfl)
        go_wp2
        go_returns
        exact ⟨rfl, wmap_eq WT.out (by rw [HX.out]), HBZ.out _⟩
      · have HX := Lib.hid (show B3 = false by rw [HQ3.out, decide_eq_false hlt']; rfl)
        go_wp2
        go_returns
        exact ⟨rfl, wmap_eq WF'.out (by rw [HX.out]), HBZ.out _⟩
end Go.Proofs.YtgaaehpmbkjhlaaGreatDoor
