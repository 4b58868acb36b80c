/- The law FnTypes is walked. -/
import Derived.Test.YtgaaehpmbkjhlaaGreatDoorWBad
import Derived.Test.YtgaaehpmbkjhlaaGreatDoorWSame
namespace Go.Proofs.YtgaaehpmbkjhlaaGreatDoor
open Go Go.RowKit
attribute [local go_sem ↓] Go.wp_at_zero Go.wp_at_succ

/-- One claim of a leaf's kind. -/
def leafC (nm : ByteArray) (k : Int) (t : ByteArray) (n : Int) : Cl := ⟨nm, ⟨k, t, n, none, 0, 0⟩, []⟩
/-- The claim of an audience with a number in its list. -/
def listC (b : Nat) (n : Int) : Cl := ⟨AUD, ⟨4, ⟨#[]⟩, 0, some ⟨b, 0, none⟩, 1, 1⟩, [⟨2, ⟨#[]⟩, n, none, 0, 0⟩]⟩

theorem one_find (c : Cl) : findC [c] c.name = some c := by
  unfold findC
  simp [List.find?, beqB_self]
theorem one_find_no (c : Cl) (s : ByteArray) (h : s ≠ c.name) : findC [c] s = none := by
  unfold findC
  simp [List.find?, beqB_ne h]
theorem one_fine (c : Cl) (h1 : FineC c) (h2 : KindC c) : Fine [c] :=
  ⟨by simp, fun x hx => by obtain rfl : x = c := by simpa using hx
                           exact h1, fun x hx => by obtain rfl : x = c := by simpa using hx
                                                    exact h2, fun i j hi hj hji => by simp at hi hj; omega⟩
theorem leaf_fine (nm : ByteArray) (k : Int) (t : ByteArray) (n : Int) (hnm : nm.size ≤ 4096) (hk : k = 1 ∨ k = 2 ∨ k = 5) (ht : t.size ≤ 4096) (n1 : -1000000000000000 ≤ n) (n2 : n ≤ 1000000000000000) : Fine [leafC nm k t n] := by
  refine one_fine _ ⟨hnm, ?_⟩ (.inl hk)
  refine { k1 := ?_, k2 := ?_, k3 := ?_, t := ht, n1 := n1, n2 := n2, l := by show 0 ≤ 50; decide, xs := fun x hx => by cases hx }
  · show 1 ≤ k; omega
  · show k ≤ 5; omega
  · show (k == 3) = false; rw [beq_eq_false_iff_ne]; omega
theorem list_fine (b : Nat) (n : Int) (n1 : -1000000000000000 ≤ n) (n2 : n ≤ 1000000000000000) : Fine [listC b n] := by
  refine one_fine _ ⟨by show AUD.size ≤ 4096; decide, ?_⟩ (.inr ⟨rfl, by show 1 ≤ 1; decide, by show 1 ≤ 50; decide, fun x hx => ?_⟩)
  · refine { k1 := by show (1 : Int) ≤ 4; decide, k2 := by show (4 : Int) ≤ 5; decide, k3 := rfl, t := by show (0 : Nat) ≤ 4096; decide, n1 := by show (-1000000000000000 : Int) ≤ 0; decide, n2 := by show (0 : Int) ≤ 1000000000000000; decide, l := by show 1 ≤ 50; decide, xs := fun x hx => ?_ }
    obtain rfl : x = ⟨2, ⟨#[]⟩, n, none, 0, 0⟩ := by simpa [listC] using hx
    exact { k1 := by show (1 : Int) ≤ 2; decide, k2 := by show (2 : Int) ≤ 5; decide, k3 := rfl, t := by show (0 : Nat) ≤ 4096; decide, n1 := n1, n2 := n2, l := rfl }
  · obtain rfl : x = ⟨2, ⟨#[]⟩, n, none, 0, 0⟩ := by simpa [listC] using hx
    exact .inr (.inl rfl)

theorem leaf_csat (w : World) (nm : ByteArray) (k : Int) (t : ByteArray) (n : Int) (hnm : nm.size ≤ 4096) (hk : k = 1 ∨ k = 2 ∨ k = 5) (ht : t.size ≤ 4096) (n1 : -1000000000000000 ≤ n) (n2 : n ≤ 1000000000000000) :
    CsAt (w.alloc (.cells #[.string nm, .int .i64 k, .string t, .int .i64 n, .slice none 0 0] 29)) (some ⟨w.heap.size, 0, none⟩) 1 [leafC nm k t n] := by
  refine ⟨rfl, by decide, fun _ => ⟨w.heap.size, 0, rfl, fun i hi => ?_⟩⟩
  have : i = 0 := by simp at hi; omega
  subst this
  have hmax : maxLen = 9223372036854775807 := rfl
  have hcl : ClAt (w.alloc (.cells #[.string nm, .int .i64 k, .string t, .int .i64 n, .slice none 0 0] 29)) w.heap.size 0 (leafC nm k t n) :=
    ⟨by simp [go_sem, leafC], by simp [go_sem, leafC], by simp [go_sem, leafC], by simp [go_sem, leafC], by simp [go_sem, leafC], by simp, ⟨by show t.size ≤ maxLen; omega, by show -9223372036854775808 ≤ n ∧ n ≤ 9223372036854775807; omega, by show -9223372036854775808 ≤ k ∧ k ≤ 9223372036854775807; omega, by show 0 ≤ maxLen; omega⟩, by show nm.size ≤ maxLen; omega, ⟨rfl, (fun x h => by cases h), (fun h => absurd rfl h)⟩⟩
  exact hcl
theorem list_csat (W : World) (b g : Nat) (n : Int) (n1 : -1000000000000000 ≤ n) (n2 : n ≤ 1000000000000000) (hb : ∀ i u, #[Value.int .i64 2, .string ⟨#[]⟩, .int .i64 n, .slice none 0 0][i]? = some u → W.cell? ⟨b, i, none⟩ = some u)
    (hg : ∀ i u, #[Value.string AUD, .int .i64 4, .string ⟨#[]⟩, .int .i64 0, .slice (some ⟨b, 0, none⟩) 1 1][i]? = some u → W.cell? ⟨g, i, none⟩ = some u) : CsAt W (some ⟨g, 0, none⟩) 1 [listC b n] := by
  refine ⟨rfl, by decide, fun _ => ⟨g, 0, rfl, fun i hi => ?_⟩⟩
  have : i = 0 := by simp at hi; omega
  subst this
  have hmax : maxLen = 9223372036854775807 := rfl
  have hv : VAt W b 0 ⟨2, ⟨#[]⟩, n, none, 0, 0⟩ := ⟨hb 0 _ rfl, hb 1 _ rfl, hb 2 _ rfl, hb 3 _ rfl, World.block_lt_of_cell? W _ (hb 0 _ rfl)⟩
  have hl : VsAt W (some ⟨b, 0, none⟩) 1 [⟨2, ⟨#[]⟩, n, none, 0, 0⟩] := by
    refine ⟨rfl, fun x hx => ?_, fun _ => ⟨b, 0, rfl, fun j hj => ?_⟩⟩
    · obtain rfl : x = ⟨2, ⟨#[]⟩, n, none, 0, 0⟩ := by simpa using hx
      exact ⟨by show (0 : Nat) ≤ maxLen; omega, by show -9223372036854775808 ≤ n ∧ n ≤ 9223372036854775807; omega, ⟨by show (-9223372036854775808 : Int) ≤ 2; decide, by show (2 : Int) ≤ 9223372036854775807; decide⟩, by show 0 ≤ maxLen; omega⟩
    · have : j = 0 := by simp at hj; omega
      subst this
      exact hv
  have hcl : ClAt W g 0 (listC b n) :=
    ⟨hg 0 _ rfl, hg 1 _ rfl, hg 2 _ rfl, hg 3 _ rfl, hg 4 _ rfl, World.block_lt_of_cell? W _ (hg 0 _ rfl), ⟨by show (0 : Nat) ≤ maxLen; omega, ⟨by show (-9223372036854775808 : Int) ≤ 0; decide, by show (0 : Int) ≤ 9223372036854775807; decide⟩, ⟨by show (-9223372036854775808 : Int) ≤ 4; decide, by show (4 : Int) ≤ 9223372036854775807; decide⟩, by show 1 ≤ maxLen; omega⟩, by show AUD.size ≤ maxLen; rw [hmax]; decide, hl⟩
  exact hcl

/-- The settings of the law. -/
def typeS : St := ⟨1, 0, none, 0, 0, [], none, 0, 0, [], false, ⟨#[]⟩, ⟨#[]⟩, false, false, false, false, false, false⟩
theorem type_asked : Asked typeS := ⟨⟨by decide, by decide⟩, ⟨by decide, by decide⟩, by decide, ⟨by decide, (fun t h => by cases h)⟩, ⟨by decide, (fun t h => by cases h)⟩, by decide, by decide⟩
theorem type_stat (w : World) : StAt w typeS :=
  ⟨⟨by decide, by decide⟩, ⟨by decide, by decide⟩, ⟨rfl, (fun h => absurd rfl h)⟩, ⟨rfl, (fun h => absurd rfl h)⟩, (fun t h => by cases h), (fun t h => by cases h), by decide, by decide, by decide, by decide⟩
theorem nil_empty : ((⟨#[]⟩ : ByteArray).toList == []) = true := by rw [ByteArray.toList_eq]; rfl
theorem other_names : NBF ≠ EXP ∧ IAT ≠ EXP := by decide

theorem type_checks (se : Nat → Addr) (t : ByteArray) : Checks se typeS [leafC EXP 1 t 0] (some 13) none none none none none := by
  obtain ⟨e1, e2⟩ := other_names
  refine ⟨fun v bm w hse hm _ => ?_, fun v bm w hse hm _ => ?_, fun h => ?_, fun _ => rfl, fun h => absurd rfl h, fun _ => rfl, fun h => ?_, fun _ => rfl, fun h => ?_, fun _ => rfl⟩
  · exact verExp_bad se v bm _ _ _ w _ hse hm (one_find (leafC EXP 1 t 0)) rfl
  · exact verNbf_none se v bm _ _ false w hse hm (one_find_no _ _ e1)
  · exact absurd (show (false : Bool) = true from h) (by decide)
  · rw [show typeS.iss = ⟨#[]⟩ from rfl, nil_empty] at h; exact absurd h (by decide)
  · rw [show typeS.sub = ⟨#[]⟩ from rfl, nil_empty] at h; exact absurd h (by decide)

theorem validate_type (se : Nat → Addr) (t : ByteArray) (ht : t.size ≤ 4096) (g : Nat) (w : World) (hse : Sen w se) (hm : CsAt w (some ⟨g, 0, none⟩) 1 [leafC EXP 1 t 0]) : Calls Tryz.prog 13 #[.agg typeS.vals, .slice (some ⟨g, 0, none⟩) 1 1] w (GivesInts [14] w) :=
  validate13 se typeS _ _ _ _ _ _ _ (type_checks se t) _ 1 1 w hse (type_stat w) type_asked.fine hm (leaf_fine EXP 1 t 0 (by decide) (.inl rfl) ht (by decide) (by decide)) (by decide) (by decide)

theorem fourteen_at (w : World) : IntsAt (w.alloc (.cells #[.int .i64 14] 3)) (.slice (some ⟨w.heap.size, 0, none⟩) 1 1) [14] :=
  ⟨some ⟨w.heap.size, 0, none⟩, 1, rfl, fun _ => ⟨w.heap.size, rfl, fun j hj => by
    have : j = 0 := by simp at hj; omega
    subst this
    simp [go_sem, intV]⟩⟩

set_option maxRecDepth 100000 in
set_option maxHeartbeats 4000000 in
theorem types_law (se : Nat → Addr) (t : ByteArray) (n : Int) (w : World) (hse : Sen w se) (ht : t.size ≤ maxLen) : Calls Tryz.prog 5 #[.string t, .int .i64 n] w (YesB true w) := by
  unfold maxLen at ht
  have HSE := Lib.hid hse; clear hse
  by_cases a0 : 2147483647 < t.size
  · go_enter Tryz.func5, Tryz.ntmps5
    go_wp2
    go_ret
    exact ⟨rfl, Below.refl _ _⟩
  by_cases a1 : t.size < 1
  · go_enter Tryz.func5, Tryz.ntmps5
    go_wp2
    go_ret
    exact ⟨rfl, Below.refl _ _⟩
  by_cases a2 : 40 < t.size
  · go_enter Tryz.func5, Tryz.ntmps5
    go_wp2
    go_ret
    exact ⟨rfl, Below.refl _ _⟩
  by_cases a3 : n < 1
  · go_enter Tryz.func5, Tryz.ntmps5
    go_wp2
    go_ret
    exact ⟨rfl, Below.refl _ _⟩
  by_cases a4 : 1099511627776 < n
  · go_enter Tryz.func5, Tryz.ntmps5
    go_wp2
    go_ret
    exact ⟨rfl, Below.refl _ _⟩
  go_enter Tryz.func5, Tryz.ntmps5
  go_wp2_with fail
  have hn1 : -1000000000000000 ≤ n := by omega
  have hn2 : n ≤ 1000000000000000 := by omega
  have ht4 : t.size ≤ 4096 := by omega
  have hDT : ∀ (nm : ByteArray) (W : World), (nm = EXP ∨ nm = NBF ∨ nm = IAT) → Below w.heap.size w W → Calls Tryz.prog 7 #[.slice (some ⟨W.heap.size, 0, none⟩) 1 1, .string nm] (W.alloc (.cells #[.string nm, .int .i64 1, .string t, .int .i64 0, .slice none 0 0] 29)) (Gives2 (.int .i64 0) (.int .i64 2) (W.alloc (.cells #[.string nm, .int .i64 1, .string t, .int .i64 0, .slice none 0 0] 29))) := fun nm W hnm hb =>
    have hs : nm.size ≤ 4096 := by rcases hnm with rfl | rfl | rfl <;> decide
    date_bad se _ 1 1 [leafC nm 1 t 0] _ (HSE.out.below (hb.alloc hb.size _)) (leaf_csat W nm 1 t 0 hs (.inl rfl) ht4 (by decide) (by decide)) (leaf_fine nm 1 t 0 hs (.inl rfl) ht4 (by decide) (by decide)) nm hnm _ (one_find (leafC nm 1 t 0)) rfl
  have hTX : ∀ (nm : ByteArray) (k m : Int) (W : World), (nm = ISS ∨ nm = SUB) → (k = 2 ∨ k = 5) → -1000000000000000 ≤ m → m ≤ 1000000000000000 → Below w.heap.size w W → Calls Tryz.prog 8 #[.slice (some ⟨W.heap.size, 0, none⟩) 1 1, .string nm] (W.alloc (.cells #[.string nm, .int .i64 k, .string ⟨#[]⟩, .int .i64 m, .slice none 0 0] 29)) (Gives2 (.string ByteArray.empty) (.bool false) (W.alloc (.cells #[.string nm, .int .i64 k, .string ⟨#[]⟩, .int .i64 m, .slice none 0 0] 29))) := fun nm k m W hnm hk m1 m2 hb =>
    have hs : nm.size ≤ 4096 := by rcases hnm with rfl | rfl <;> decide
    textOf_bad se _ 1 1 [leafC nm k ⟨#[]⟩ m] _ (HSE.out.below (hb.alloc hb.size _)) (leaf_csat W nm k ⟨#[]⟩ m hs (.inr hk) (by decide) m1 m2) (leaf_fine nm k ⟨#[]⟩ m hs (.inr hk) (by decide) m1 m2) nm hnm _ (one_find (leafC nm k ⟨#[]⟩ m)) hk
  have hAU : ∀ (W : World), Below w.heap.size w W → Calls Tryz.prog 9 #[.slice (some ⟨W.heap.size + 1, 0, none⟩) 1 1] ((W.alloc (.cells #[.int .i64 2, .string ⟨#[]⟩, .int .i64 n, .slice none 0 0] 27)).alloc (.cells #[.string AUD, .int .i64 4, .string ⟨#[]⟩, .int .i64 0, .slice (some ⟨W.heap.size, 0, none⟩) 1 1] 29))
      (Gives2 (.slice none 0 0) (.bool false) ((W.alloc (.cells #[.int .i64 2, .string ⟨#[]⟩, .int .i64 n, .slice none 0 0] 27)).alloc (.cells #[.string AUD, .int .i64 4, .string ⟨#[]⟩, .int .i64 0, .slice (some ⟨W.heap.size, 0, none⟩) 1 1] 29))) := fun W hb => by
    have h2 : (W.alloc (.cells #[.int .i64 2, .string ⟨#[]⟩, .int .i64 n, .slice none 0 0] 27)).heap.size = W.heap.size + 1 := by simp
    refine audienceOf_bad se _ 1 1 [listC W.heap.size n] _ (HSE.out.below ((hb.alloc hb.size _).alloc (hb.alloc hb.size _).size _)) (list_csat _ W.heap.size (W.heap.size + 1) n hn1 hn2 (fun i u hi => ?_) (fun i u hi => ?_)) (list_fine W.heap.size n hn1 hn2) (listC W.heap.size n) ⟨2, ⟨#[]⟩, n, none, 0, 0⟩ (one_find (listC W.heap.size n)) rfl rfl rfl
    · rw [World.cell?_alloc_lt _ _ _ (by simp)]
      simp only [World.cell?, heap_alloc_new]
      simpa using hi
    · rw [← h2]
      simp only [World.cell?, heap_alloc_new]
      simpa using hi
  have hVT : ∀ (W : World), Below w.heap.size w W → Calls Tryz.prog 13 #[.agg typeS.vals, .slice (some ⟨W.heap.size, 0, none⟩) 1 1] (W.alloc (.cells #[.string EXP, .int .i64 1, .string t, .int .i64 0, .slice none 0 0] 29)) (GivesInts [14] (W.alloc (.cells #[.string EXP, .int .i64 1, .string t, .int .i64 0, .slice none 0 0] 29))) := fun W hb =>
    validate_type se t ht4 W.heap.size _ (HSE.out.below (hb.alloc hb.size _)) (leaf_csat W EXP 1 t 0 (by decide) (.inl rfl) ht4 (by decide) (by decide))
  unfold St.vals typeS at hVT
  simp only at hVT
  have HAU := Lib.hid hAU; clear hAU
  have HVT := Lib.hid hVT; clear hVT
  have HDT := Lib.hid hDT; clear hDT
  have HTX := Lib.hid hTX; clear hTX
  have c0 : (w.alloc (.cells #[.string EXP, .string NBF, .string IAT] 9)).cell? ⟨w.heap.size, 0, none⟩ = some (.string EXP) := by simp [go_sem]
  have c1 : (w.alloc (.cells #[.string EXP, .string NBF, .string IAT] 9)).cell? ⟨w.heap.size, 1, none⟩ = some (.string NBF) := by simp [go_sem]
  have c2 : (w.alloc (.cells #[.string EXP, .string NBF, .string IAT] 9)).cell? ⟨w.heap.size, 2, none⟩ = some (.string IAT) := by simp [go_sem]
  have hb2 : Below w.heap.size w (w.alloc (.cells #[.string EXP, .string NBF, .string IAT] 9)) := below1 _ _
  have hz2 : w.heap.size < (w.alloc (.cells #[.string EXP, .string NBF, .string IAT] 9)).heap.size := by simp
  generalize w.alloc (.cells #[.string EXP, .string NBF, .string IAT] 9) = W2 at c0 c1 c2 hb2 hz2 ⊢
  have HB2 := Lib.hid hb2; clear hb2
  have HCS := Lib.hid (And.intro c0 (And.intro c1 c2)); clear c0 c1 c2
  go_loopw [39] (fun i wr => ∃ k : Nat, k ≤ 3 ∧ i = .int .i64 k ∧ Below W2.heap.size W2 wr) (fun i _ => 3 - (intOf i).toNat)
  case atStart => exact ⟨0, by omega, rfl, Below.refl _ _⟩
  case round =>
    obtain ⟨k, hk, rfl, hb3⟩ := hrel
    have HB3 := Lib.hid hb3; clear hb3
    by_cases hlt : k < 3
    · have hnm : ∃ nm, wr.cell? ⟨w.heap.size, k, none⟩ = some (.string nm) ∧ (nm = EXP ∨ nm = NBF ∨ nm = IAT) := by
        obtain ⟨c0, c1, c2⟩ := HCS.out
        have hcell := fun i => HB3.out.cell (p := ⟨w.heap.size, i, none⟩) hz2
        rcases k with _ | _ | _ | k
        · exact ⟨_, (hcell 0).trans c0, .inl rfl⟩
        · exact ⟨_, (hcell 1).trans c1, .inr (.inl rfl)⟩
        · exact ⟨_, (hcell 2).trans c2, .inr (.inr rfl)⟩
        · omega
      obtain ⟨nm, e0, hnm⟩ := hnm
      have HNM := Lib.hid hnm; clear hnm
      go_wp2_with fail
      refine (HDT.out nm wr HNM.out (HB2.out.trans (HB3.out.mono HB2.out.size))).mono ?_
      rintro e w3 ⟨rfl, hb4⟩
      have HB4 := Lib.hid ((HB3.out.alloc HB3.out.size _).trans (hb4.mono (HB3.out.alloc HB3.out.size _).size)); clear hb4
      go_wp2
      exact ⟨⟨k + 1, by omega, by go_num, HB4.out⟩, by simp [intOf]; omega⟩
    · have HBX := Lib.hid (HB2.out.trans (HB3.out.mono HB2.out.size))
      go_wp2_with fail
      clear HCS HB3 HB2 hz2
      obtain ⟨B', hB'⟩ : ∃ B', B' = wr.heap.size := ⟨_, rfl⟩
      have c0 : (wr.alloc (.cells #[.string ISS, .string SUB] 9)).cell? ⟨wr.heap.size, 0, none⟩ = some (.string ISS) := by simp [go_sem]
      have c1 : (wr.alloc (.cells #[.string ISS, .string SUB] 9)).cell? ⟨wr.heap.size, 1, none⟩ = some (.string SUB) := by simp [go_sem]
      have hb2 : Below w.heap.size w (wr.alloc (.cells #[.string ISS, .string SUB] 9)) := HBX.out.alloc HBX.out.size _
      have hz2 : B' < (wr.alloc (.cells #[.string ISS, .string SUB] 9)).heap.size := by rw [hB']; simp
      rw [← hB'] at c0 c1 ⊢
      clear hB'
      generalize wr.alloc (.cells #[.string ISS, .string SUB] 9) = W3 at c0 c1 hb2 hz2 ⊢
      have HB2 := Lib.hid hb2; clear hb2
      have HCS := Lib.hid (And.intro c0 c1); clear c0 c1
      go_loopw [58] (fun i wr => ∃ k : Nat, k ≤ 2 ∧ i = .int .i64 k ∧ Below W3.heap.size W3 wr) (fun i _ => 2 - (intOf i).toNat)
      case atStart => exact ⟨0, by omega, rfl, Below.refl _ _⟩
      case round =>
        obtain ⟨k, hk, rfl, hb3⟩ := hrel
        have HB3 := Lib.hid hb3; clear hb3
        by_cases hlt : k < 2
        · have hnm : ∃ nm, wr.cell? ⟨B', k, none⟩ = some (.string nm) ∧ (nm = ISS ∨ nm = SUB) := by
            obtain ⟨c0, c1⟩ := HCS.out
            have hcell := fun i => HB3.out.cell (p := ⟨B', i, none⟩) hz2
            rcases k with _ | _ | k
            · exact ⟨_, (hcell 0).trans c0, .inl rfl⟩
            · exact ⟨_, (hcell 1).trans c1, .inr rfl⟩
            · omega
          obtain ⟨nm, e0, hnm⟩ := hnm
          have HNM := Lib.hid hnm; clear hnm
          have HBW := Lib.hid (HB2.out.trans (HB3.out.mono HB2.out.size))
          go_wp2_with fail
          refine (HTX.out nm 2 n wr HNM.out (.inl rfl) hn1 hn2 HBW.out).mono ?_
          rintro e w3 ⟨rfl, hb4⟩
          have HB4 := Lib.hid ((HB3.out.alloc HB3.out.size _).trans (hb4.mono (HB3.out.alloc HB3.out.size _).size)); clear hb4
          go_wp2_with fail
          refine (HTX.out nm 5 (n % 2) w3 HNM.out (.inr rfl) (by omega) (by omega) (HB2.out.trans (HB4.out.mono HB2.out.size))).mono ?_
          rintro e w5 ⟨rfl, hb5⟩
          have HB5 := Lib.hid ((HB4.out.alloc HB4.out.size _).trans (hb5.mono (HB4.out.alloc HB4.out.size _).size)); clear hb5
          go_wp2
          exact ⟨⟨k + 1, by omega, by go_num, HB5.out⟩, by simp [intOf]; omega⟩
        · have HBY := Lib.hid (HB2.out.trans (HB3.out.mono HB2.out.size))
          have hAU := HAU.out wr HBY.out
          have HAUW := Lib.hid hAU; clear hAU
          go_wp2_with fail
          refine HAUW.out.mono ?_
          rintro e w4 ⟨rfl, hb4⟩
          have hbA : Below w.heap.size w ((wr.alloc (.cells #[.int .i64 2, .string ⟨#[]⟩, .int .i64 n, .slice none 0 0] 27)).alloc (.cells #[.string AUD, .int .i64 4, .string ⟨#[]⟩, .int .i64 0, .slice (some ⟨wr.heap.size, 0, none⟩) 1 1] 29)) := (HBY.out.alloc HBY.out.size _).alloc (HBY.out.alloc HBY.out.size _).size _
          have HBZ := Lib.hid (hbA.trans (hb4.mono hbA.size)); clear hb4 hbA
          go_wp2_with fail
          refine (HVT.out w4 HBZ.out).mono ?_
          rintro e w5 ⟨sl, rfl, hown, hb5⟩
          have HI := Lib.hid (show IntsAt w5 sl [14] from ints_of_own hown); clear hown
          have HBV := Lib.hid ((HBZ.out.alloc HBZ.out.size _).trans (hb5.mono (HBZ.out.alloc HBZ.out.size _).size)); clear hb5
          go_wp2_with fail
          refine (same_true sl _ [14] _ (HI.out.below (below1 _ _)) (fourteen_at w5) (by decide)).mono ?_
          rintro e w6 ⟨rfl, hb6⟩
          have HBF := Lib.hid ((HBV.out.alloc HBV.out.size _).trans (hb6.mono (HBV.out.alloc HBV.out.size _).size)); clear hb6
          go_wp2
          go_ret
          exact ⟨rfl, HBF.out⟩
end Go.Proofs.YtgaaehpmbkjhlaaGreatDoor
