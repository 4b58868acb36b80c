/- The validator's check of the audience. -/
import Derived.Test.YtgaaehpmbkjhlaaGreatDoorWCheck
namespace Go.Proofs.YtgaaehpmbkjhlaaGreatDoor
open Go Go.RowKit

set_option maxRecDepth 100000 in
set_option maxHeartbeats 1000000 in
theorem verAud_none (se : Nat → Addr) (v bm : Nat) (cs : List Cl) (wa : Option Addr) (wn wc' : Nat) (all : Bool) (w : World) (hse : Sen w se) (hm : MapAt w bm cs) (hf : findC cs AUD = none) (hw : 0 < wn)
    (hv : w.cell? ⟨v, 5, none⟩ = some (.slice wa wn wc')) :
    Calls Tryz.prog 68 #[.pointer (some ⟨v, 0, none⟩), .iface 47 (.map (some bm)), .slice wa wn wc', .bool all] w (GivesO (some (se 3)) w) := by
  have hp := parseAud_none bm cs AUD w hm hf
  have H1 := Lib.hid hp; clear hp
  have hpos : (0 : Int) < (wn : Int) := by omega
  have hd : decide (0 < wn) = true := decide_eq_true hw
  have HSE := Lib.hid hse; clear hse
  clear hm hf
  go_enter Tryz.func68, Tryz.ntmps68
  go_wp2_with (first | (go_at_call 45; refine H1.out.mono ?_; rintro e w1 ⟨sl, rfl, hown, hb1⟩; have hv1 := cell_below hv hb1; obtain ⟨rfl, _⟩ | ⟨g, cap, cur, rfl, hx⟩ := hown.2) | (go_at_call 96; refine (errorIfRequired_yes AUD se _ (HSE.out.below hb1) (by decide)).mono ?_; rintro e w' ⟨v, rfl, hv2, hb⟩; obtain ⟨T, y, rfl⟩ := hv2.form) | go_in)
  all_goals go_ret
  all_goals exact ⟨_, rfl, hv2.mono hb1.size, hb1.trans (hb.mono hb1.size)⟩
set_option maxRecDepth 100000 in
set_option maxHeartbeats 2000000 in
theorem verAud_any (se : Nat → Addr) (v bm : Nat) (cs : List Cl) (ss want : List ByteArray) (wa : Option Addr) (wn wc' : Nat) (w : World) (hse : Sen w se) (hm : MapAt w bm cs) (ha : AudIs cs ss) (h0 : 0 < ss.length) (hne : ∀ s ∈ ss, (s.toList == []) = false)
    (hwant : StrsAt w wa wn want) (hmax : wn ≤ 9223372036854775807) :
    Calls Tryz.prog 68 #[.pointer (some ⟨v, 0, none⟩), .iface 47 (.map (some bm)), .slice wa wn wc', .bool false] w (GivesO (if ss.any (among want) then none else some (se 4)) w) := by
  obtain ⟨res, hres⟩ : ∃ res, res = (if ss.any (among want) then none else some (se 4)) := ⟨_, rfl⟩
  rw [← hres]
  have HRES := Lib.hid hres; clear hres
  have hlen50 := ha.len
  have hg4 := hse.glob 4 (by decide)
  obtain ⟨n, hn⟩ : ∃ n, n = ss.length := ⟨_, rfl⟩
  obtain ⟨x0, hx0⟩ : ∃ x0, x0 = ss[0] := ⟨_, rfl⟩
  have hs0 : (x0.toList == []) = false := by rw [hx0]; exact hne _ (List.getElem_mem h0)
  have h1 : Calls Tryz.prog 45 #[.map (some bm), .string AUD] w fun e w1 => ∃ g cap, e = .returned (.tuple #[.slice (some ⟨g, 0, none⟩) n cap, .nilIface]) ∧ (∀ j (h : j < ss.length), w1.cell? ⟨g, j, none⟩ = some (.string ss[j])) ∧ w1.cell? ⟨g, 0, none⟩ = some (.string x0) ∧ Below w.heap.size w w1 := by
    refine (parseAud_is bm cs ss w hm ha).mono ?_
    rintro e w1 ⟨sl, rfl, hown, hb1⟩
    obtain ⟨g, cap, rfl, _, _⟩ := hown.form h0
    have hcells : ∀ j (h : j < ss.length), w1.cell? ⟨g, j, none⟩ = some (.string ss[j]) := fun j h => by
      have := hown.cells (g := g) rfl j (.string ss[j]) (by simp [h])
      rw [Addr.add_mid] at this
      simpa using this
    exact ⟨g, cap, by rw [hn], hcells, by rw [hx0]; exact hcells 0 h0, hb1⟩
  have H1 := Lib.hid h1; clear h1
  have HW := Lib.hid hwant; clear hwant
  rw [← hn] at h0 hlen50
  clear hx0
  have HN := Lib.hid hn; clear hn
  clear hm ha hse hne
  by_cases hone : n = 1
  · subst hone
    go_enter Tryz.func68, Tryz.ntmps68
    go_wp2_with (first | (go_at_call 45; refine H1.out.mono ?_; rintro e w1 ⟨g, cap, rfl, hcells, e0, hb1⟩; have HWA := Lib.hid (fun s => among_tells wa wn wc' want s w1 (HW.out.below hb1) hmax); have hg5 := cell_below hg4 hb1; have HC := Lib.hid hcells; clear hcells; have HB := Lib.hid hb1; clear hb1) | go_in)
    go_loop [50] (fun i => ∃ k : Nat, k ≤ 1 ∧ i = .int .i64 k ∧ ∀ q (h : q < ss.length), q < k → among want ss[q] = false) (fun i => 1 - (intOf i).toNat)
    case atStart => exact ⟨0, Nat.zero_le _, rfl, fun _ _ h => by omega⟩
    case round =>
      obtain ⟨k, hk, rfl, hall⟩ := hrel
      have HALL := Lib.hid hall; clear hall
      by_cases hlt : k < 1
      · have hk' : k < ss.length := by rw [← HN.out]; exact hlt
        have ek := HC.out k hk'
        have hw := HWA.out ss[k]
        rcases Bool.eq_false_or_eq_true (among want ss[k]) with hb | hb
        · rw [hb] at hw
          have HWK := Lib.hid hw; clear hw
          go_wp2_with (first | (go_at_call 100; refine HWK.out.mono ?_; rintro e w' ⟨rfl, rfl⟩) | go_in)
          go_ret
          have hr : res = none := by rw [HRES.out, if_pos (List.any_eq_true.2 ⟨_, List.getElem_mem hk', hb⟩)]
          rw [hr]
          exact ⟨rfl, HB.out⟩
        · rw [hb] at hw
          have HWK := Lib.hid hw; clear hw
          go_wp2_with (first | (go_at_call 100; refine HWK.out.mono ?_; rintro e w' ⟨rfl, rfl⟩) | go_in)
          refine ⟨⟨trivial, _, _, .int .i64 ((k + 1 : Nat) : Int), _, _, _, _, _, _, _, ⟨k + 1, by omega, rfl, fun q hq hlt2 => ?_⟩, rfl⟩, by simp [intOf]; omega⟩
          rcases Nat.lt_or_ge q k with h' | h'
          · exact HALL.out q hq h'
          · obtain rfl : q = k := by omega
            exact hb
      · obtain rfl : k = 1 := by omega
        go_wp2
        go_ret
        have hr : res = some (se 4) := by
          rw [HRES.out, if_neg]
          intro h
          obtain ⟨x, hx, hxx⟩ := List.any_eq_true.1 h
          obtain ⟨q, hq, rfl⟩ := List.mem_iff_getElem.1 hx
          rw [HALL.out q hq (by have := HN.out; omega)] at hxx
          exact absurd hxx (by decide)
        rw [hr]
        exact ⟨_, rfl, .plain, HB.out⟩
  · have hz : ((n : Int) == 0) = false := by simp; omega
    have ho : ((n : Int) == 1) = false := by simp; omega
    go_enter Tryz.func68, Tryz.ntmps68
    go_wp2_with (first | (go_at_call 45; refine H1.out.mono ?_; rintro e w1 ⟨g, cap, rfl, hcells, e0, hb1⟩; have HWA := Lib.hid (fun s => among_tells wa wn wc' want s w1 (HW.out.below hb1) hmax); have hg5 := cell_below hg4 hb1; have HC := Lib.hid hcells; clear hcells; have HB := Lib.hid hb1; clear hb1) | go_in)
    go_loop [50] (fun i => ∃ k : Nat, k ≤ n ∧ i = .int .i64 k ∧ ∀ q (h : q < ss.length), q < k → among want ss[q] = false) (fun i => n - (intOf i).toNat)
    case atStart => exact ⟨0, Nat.zero_le _, rfl, fun _ _ h => by omega⟩
    case round =>
      obtain ⟨k, hk, rfl, hall⟩ := hrel
      have HALL := Lib.hid hall; clear hall
      by_cases hlt : k < n
      · have hk' : k < ss.length := by rw [← HN.out]; exact hlt
        have ek := HC.out k hk'
        have hw := HWA.out ss[k]
        rcases Bool.eq_false_or_eq_true (among want ss[k]) with hb | hb
        · rw [hb] at hw
          have HWK := Lib.hid hw; clear hw
          go_wp2_with (first | (go_at_call 100; refine HWK.out.mono ?_; rintro e w' ⟨rfl, rfl⟩) | go_in)
          go_ret
          have hr : res = none := by rw [HRES.out, if_pos (List.any_eq_true.2 ⟨_, List.getElem_mem hk', hb⟩)]
          rw [hr]
          exact ⟨rfl, HB.out⟩
        · rw [hb] at hw
          have HWK := Lib.hid hw; clear hw
          go_wp2_with (first | (go_at_call 100; refine HWK.out.mono ?_; rintro e w' ⟨rfl, rfl⟩) | go_in)
          refine ⟨⟨trivial, _, _, .int .i64 ((k + 1 : Nat) : Int), _, _, _, _, _, _, _, ⟨k + 1, by omega, rfl, fun q hq hlt2 => ?_⟩, rfl⟩, by simp [intOf]; omega⟩
          rcases Nat.lt_or_ge q k with h' | h'
          · exact HALL.out q hq h'
          · obtain rfl : q = k := by omega
            exact hb
      · obtain rfl : k = n := by omega
        go_wp2
        go_ret
        have hr : res = some (se 4) := by
          rw [HRES.out, if_neg]
          intro h
          obtain ⟨x, hx, hxx⟩ := List.any_eq_true.1 h
          obtain ⟨q, hq, rfl⟩ := List.mem_iff_getElem.1 hx
          rw [HALL.out q hq (by have := HN.out; omega)] at hxx
          exact absurd hxx (by decide)
        rw [hr]
        exact ⟨_, rfl, .plain, HB.out⟩
set_option maxRecDepth 100000 in
set_option maxHeartbeats 2000000 in
theorem verAud_all (se : Nat → Addr) (v bm : Nat) (cs : List Cl) (ss want : List ByteArray) (wb wo wn wc' : Nat) (w : World) (hse : Sen w se) (hm : MapAt w bm cs) (ha : AudIs cs ss) (h0 : 0 < ss.length) (hne : ∀ s ∈ ss, (s.toList == []) = false)
    (hwl : want.length = wn) (hwant : ∀ j (h : j < want.length), w.cell? ⟨wb, wo + j, none⟩ = some (.string want[j])) (hmax : wn ≤ 9223372036854775807) :
    Calls Tryz.prog 68 #[.pointer (some ⟨v, 0, none⟩), .iface 47 (.map (some bm)), .slice (some ⟨wb, wo, none⟩) wn wc', .bool true] w (GivesO (if want.all (among ss) then none else some (se 4)) w) := by
  obtain ⟨res, hres⟩ : ∃ res, res = (if want.all (among ss) then none else some (se 4)) := ⟨_, rfl⟩
  rw [← hres]
  have HRES := Lib.hid hres; clear hres
  have hlen50 := ha.len
  have hg4 := hse.glob 4 (by decide)
  obtain ⟨n, hn⟩ : ∃ n, n = ss.length := ⟨_, rfl⟩
  obtain ⟨x0, hx0⟩ : ∃ x0, x0 = ss[0] := ⟨_, rfl⟩
  have hs0 : (x0.toList == []) = false := by rw [hx0]; exact hne _ (List.getElem_mem h0)
  have h1 : Calls Tryz.prog 45 #[.map (some bm), .string AUD] w fun e w1 => ∃ g cap, e = .returned (.tuple #[.slice (some ⟨g, 0, none⟩) n cap, .nilIface]) ∧ (∀ j (h : j < ss.length), w1.cell? ⟨g, j, none⟩ = some (.string ss[j])) ∧ w1.cell? ⟨g, 0, none⟩ = some (.string x0) ∧ Below w.heap.size w w1 := by
    refine (parseAud_is bm cs ss w hm ha).mono ?_
    rintro e w1 ⟨sl, rfl, hown, hb1⟩
    obtain ⟨g, cap, rfl, _, _⟩ := hown.form h0
    have hcells : ∀ j (h : j < ss.length), w1.cell? ⟨g, j, none⟩ = some (.string ss[j]) := fun j h => by
      have := hown.cells (g := g) rfl j (.string ss[j]) (by simp [h])
      rw [Addr.add_mid] at this
      simpa using this
    exact ⟨g, cap, by rw [hn], hcells, by rw [hx0]; exact hcells 0 h0, hb1⟩
  have H1 := Lib.hid h1; clear h1
  have HW := Lib.hid hwant; clear hwant
  have HWL := Lib.hid hwl; clear hwl
  rw [← hn] at h0 hlen50
  clear hx0
  have HN := Lib.hid hn; clear hn
  clear hm ha hse hne
  by_cases hone : n = 1
  · subst hone
    go_enter Tryz.func68, Tryz.ntmps68
    go_wp2_with (first | (go_at_call 45; refine H1.out.mono ?_; rintro e w1 ⟨g, cap, rfl, hcells, e0, hb1⟩; have HWA := Lib.hid (fun s => among_tells (some ⟨g, 0, none⟩) _ cap ss s w1 ⟨HN.out.symm, fun _ => ⟨g, 0, rfl, World.block_lt_of_cell? w1 _ e0, fun j hj => by simpa using hcells j hj⟩⟩ (by omega)); have hcw : ∀ j (h : j < want.length), w1.cell? ⟨wb, wo + j, none⟩ = some (.string want[j]) := fun j hj => cell_below (HW.out j hj) hb1; have HCW := Lib.hid hcw; clear hcw; have hg5 := cell_below hg4 hb1; have HC := Lib.hid hcells; clear hcells; have HB := Lib.hid hb1; clear hb1) | go_in)
    go_loop [61] (fun i => ∃ k : Nat, k ≤ wn ∧ i = .int .i64 k ∧ ∀ q (h : q < want.length), q < k → among ss want[q] = true) (fun i => wn - (intOf i).toNat)
    case atStart => exact ⟨0, Nat.zero_le _, rfl, fun _ _ h => by omega⟩
    case round =>
      obtain ⟨k, hk, rfl, hall⟩ := hrel
      have HALL := Lib.hid hall; clear hall
      by_cases hlt : k < wn
      · have hk' : k < want.length := by rw [HWL.out]; exact hlt
        have ek := HCW.out k hk'
        have hw := HWA.out want[k]
        rcases Bool.eq_false_or_eq_true (among ss want[k]) with hb | hb
        · rw [hb] at hw
          have HWK := Lib.hid hw; clear hw
          go_wp2_with (first | (go_at_call 100; refine HWK.out.mono ?_; rintro e w' ⟨rfl, rfl⟩) | go_in)
          refine ⟨⟨trivial, _, _, .int .i64 ((k + 1 : Nat) : Int), _, _, _, _, _, _, _, _, _, ⟨k + 1, by omega, rfl, fun q hq hlt2 => ?_⟩, rfl⟩, by simp [intOf]; omega⟩
          rcases Nat.lt_or_ge q k with h' | h'
          · exact HALL.out q hq h'
          · obtain rfl : q = k := by omega
            exact hb
        · rw [hb] at hw
          have HWK := Lib.hid hw; clear hw
          go_wp2_with (first | (go_at_call 100; refine HWK.out.mono ?_; rintro e w' ⟨rfl, rfl⟩) | go_in)
          go_ret
          have hr : res = some (se 4) := by
            rw [HRES.out, if_neg]
            intro h
            have := List.all_eq_true.1 h _ (List.getElem_mem hk')
            rw [hb] at this
            exact absurd this (by decide)
          rw [hr]
          exact ⟨_, rfl, .plain, HB.out⟩
      · obtain rfl : k = wn := by omega
        go_wp2
        go_ret
        have hr : res = none := by
          rw [HRES.out, if_pos]
          rw [List.all_eq_true]
          intro x hx
          obtain ⟨q, hq, rfl⟩ := List.mem_iff_getElem.1 hx
          exact HALL.out q hq (by have := HWL.out; omega)
        rw [hr]
        exact ⟨rfl, HB.out⟩
  · have hz : ((n : Int) == 0) = false := by simp; omega
    have ho : ((n : Int) == 1) = false := by simp; omega
    go_enter Tryz.func68, Tryz.ntmps68
    go_wp2_with (first | (go_at_call 45; refine H1.out.mono ?_; rintro e w1 ⟨g, cap, rfl, hcells, e0, hb1⟩; have HWA := Lib.hid (fun s => among_tells (some ⟨g, 0, none⟩) _ cap ss s w1 ⟨HN.out.symm, fun _ => ⟨g, 0, rfl, World.block_lt_of_cell? w1 _ e0, fun j hj => by simpa using hcells j hj⟩⟩ (by omega)); have hcw : ∀ j (h : j < want.length), w1.cell? ⟨wb, wo + j, none⟩ = some (.string want[j]) := fun j hj => cell_below (HW.out j hj) hb1; have HCW := Lib.hid hcw; clear hcw; have hg5 := cell_below hg4 hb1; have HC := Lib.hid hcells; clear hcells; have HB := Lib.hid hb1; clear hb1) | go_in)
    go_loop [61] (fun i => ∃ k : Nat, k ≤ wn ∧ i = .int .i64 k ∧ ∀ q (h : q < want.length), q < k → among ss want[q] = true) (fun i => wn - (intOf i).toNat)
    case atStart => exact ⟨0, Nat.zero_le _, rfl, fun _ _ h => by omega⟩
    case round =>
      obtain ⟨k, hk, rfl, hall⟩ := hrel
      have HALL := Lib.hid hall; clear hall
      by_cases hlt : k < wn
      · have hk' : k < want.length := by rw [HWL.out]; exact hlt
        have ek := HCW.out k hk'
        have hw := HWA.out want[k]
        rcases Bool.eq_false_or_eq_true (among ss want[k]) with hb | hb
        · rw [hb] at hw
          have HWK := Lib.hid hw; clear hw
          go_wp2_with (first | (go_at_call 100; refine HWK.out.mono ?_; rintro e w' ⟨rfl, rfl⟩) | go_in)
          refine ⟨⟨trivial, _, _, .int .i64 ((k + 1 : Nat) : Int), _, _, _, _, _, _, _, _, _, ⟨k + 1, by omega, rfl, fun q hq hlt2 => ?_⟩, rfl⟩, by simp [intOf]; omega⟩
          rcases Nat.lt_or_ge q k with h' | h'
          · exact HALL.out q hq h'
          · obtain rfl : q = k := by omega
            exact hb
        · rw [hb] at hw
          have HWK := Lib.hid hw; clear hw
          go_wp2_with (first | (go_at_call 100; refine HWK.out.mono ?_; rintro e w' ⟨rfl, rfl⟩) | go_in)
          go_ret
          have hr : res = some (se 4) := by
            rw [HRES.out, if_neg]
            intro h
            have := List.all_eq_true.1 h _ (List.getElem_mem hk')
            rw [hb] at this
            exact absurd this (by decide)
          rw [hr]
          exact ⟨_, rfl, .plain, HB.out⟩
      · obtain rfl : k = wn := by omega
        go_wp2
        go_ret
        have hr : res = none := by
          rw [HRES.out, if_pos]
          rw [List.all_eq_true]
          intro x hx
          obtain ⟨q, hq, rfl⟩ := List.mem_iff_getElem.1 hx
          exact HALL.out q hq (by have := HWL.out; omega)
        rw [hr]
        exact ⟨rfl, HB.out⟩
end Go.Proofs.YtgaaehpmbkjhlaaGreatDoor
