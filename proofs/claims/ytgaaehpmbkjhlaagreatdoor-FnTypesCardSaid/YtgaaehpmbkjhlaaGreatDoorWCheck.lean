/- The validator's checks of issuer and subject. -/
import Derived.Test.YtgaaehpmbkjhlaaGreatDoorWVerify
namespace Go.Proofs.YtgaaehpmbkjhlaaGreatDoor
open Go Go.RowKit

set_option maxRecDepth 100000 in
set_option maxHeartbeats 1000000 in
theorem verIss_none (se : Nat → Addr) (v bm : Nat) (cs : List Cl) (want : ByteArray) (w : World) (hse : Sen w se) (hm : MapAt w bm cs) (hf : findC cs ISS = none) :
    Calls Tryz.prog 69 #[.pointer (some ⟨v, 0, none⟩), .iface 47 (.map (some bm)), .string want, .bool true] w (GivesO (some (se 3)) w) := by
  have H1 := Lib.hid (parseString_none bm cs ISS _ hm hf)
  have H2 := Lib.hid (errorIfRequired_yes ISS se _ hse (by decide))
  clear hse hm hf
  go_enter Tryz.func69, Tryz.ntmps69
  go_wp2_with (first | (go_at_call 44; refine H1.out.mono ?_; rintro e w' ⟨rfl, rfl⟩) | (go_at_call 96; refine H2.out.mono ?_; rintro e w' ⟨v, rfl, hv, hb⟩; obtain ⟨T, y, rfl⟩ := hv.form) | go_in)
  go_ret
  exact ⟨_, rfl, hv, hb⟩

set_option maxRecDepth 100000 in
set_option maxHeartbeats 1000000 in
theorem verIss_yes (se : Nat → Addr) (v bm : Nat) (cs : List Cl) (want : ByteArray) (w : World) (c : Cl) (hse : Sen w se) (hm : MapAt w bm cs) (hf : findC cs ISS = some c) (hk : c.v.k = 1) (hne : (c.v.t.toList == []) = false) :
    Calls Tryz.prog 69 #[.pointer (some ⟨v, 0, none⟩), .iface 47 (.map (some bm)), .string want, .bool true] w (GivesO (if (c.v.t.toList == want.toList) then none else some (se 7)) w) := by
  have H1 := Lib.hid (parseString_yes bm cs ISS _ c hm hf hk)
  have hg := hse.glob 7 (by decide)
  clear hse hm hf hk
  generalize c.v.t = t at H1 hne ⊢
  rcases Bool.eq_false_or_eq_true (t.toList == want.toList) with hb | hb
  · rw [hb, if_pos rfl]
    go_enter Tryz.func69, Tryz.ntmps69
    go_wp2_with (first | (go_at_call 44; refine H1.out.mono ?_; rintro e w' ⟨rfl, rfl⟩) | (go_at_call 97; refine (errorIfFalse_true _ _).mono ?_; rintro e w' ⟨rfl, rfl⟩) | go_in)
    go_ret
    exact ⟨rfl, Below.refl _ _⟩
  · rw [hb, if_neg (by decide)]
    go_enter Tryz.func69, Tryz.ntmps69
    go_wp2_with (first | (go_at_call 44; refine H1.out.mono ?_; rintro e w' ⟨rfl, rfl⟩) | (go_at_call 97; refine (errorIfFalse_false _ _ _).mono ?_; rintro e w' ⟨rfl, rfl⟩) | go_in)
    go_ret
    exact ⟨_, rfl, .plain, Below.refl _ _⟩

set_option maxRecDepth 100000 in
set_option maxHeartbeats 1000000 in
theorem verSub_none (se : Nat → Addr) (v bm : Nat) (cs : List Cl) (want : ByteArray) (w : World) (hse : Sen w se) (hm : MapAt w bm cs) (hf : findC cs SUB = none) :
    Calls Tryz.prog 70 #[.pointer (some ⟨v, 0, none⟩), .iface 47 (.map (some bm)), .string want, .bool true] w (GivesO (some (se 3)) w) := by
  have H1 := Lib.hid (parseString_none bm cs SUB _ hm hf)
  have H2 := Lib.hid (errorIfRequired_yes SUB se _ hse (by decide))
  clear hse hm hf
  go_enter Tryz.func70, Tryz.ntmps70
  go_wp2_with (first | (go_at_call 44; refine H1.out.mono ?_; rintro e w' ⟨rfl, rfl⟩) | (go_at_call 96; refine H2.out.mono ?_; rintro e w' ⟨v, rfl, hv, hb⟩; obtain ⟨T, y, rfl⟩ := hv.form) | go_in)
  go_ret
  exact ⟨_, rfl, hv, hb⟩

set_option maxRecDepth 100000 in
set_option maxHeartbeats 1000000 in
theorem verSub_yes (se : Nat → Addr) (v bm : Nat) (cs : List Cl) (want : ByteArray) (w : World) (c : Cl) (hse : Sen w se) (hm : MapAt w bm cs) (hf : findC cs SUB = some c) (hk : c.v.k = 1) (hne : (c.v.t.toList == []) = false) :
    Calls Tryz.prog 70 #[.pointer (some ⟨v, 0, none⟩), .iface 47 (.map (some bm)), .string want, .bool true] w (GivesO (if (c.v.t.toList == want.toList) then none else some (se 8)) w) := by
  have H1 := Lib.hid (parseString_yes bm cs SUB _ c hm hf hk)
  have hg := hse.glob 8 (by decide)
  clear hse hm hf hk
  generalize c.v.t = t at H1 hne ⊢
  rcases Bool.eq_false_or_eq_true (t.toList == want.toList) with hb | hb
  · rw [hb, if_pos rfl]
    go_enter Tryz.func70, Tryz.ntmps70
    go_wp2_with (first | (go_at_call 44; refine H1.out.mono ?_; rintro e w' ⟨rfl, rfl⟩) | (go_at_call 97; refine (errorIfFalse_true _ _).mono ?_; rintro e w' ⟨rfl, rfl⟩) | go_in)
    go_ret
    exact ⟨rfl, Below.refl _ _⟩
  · rw [hb, if_neg (by decide)]
    go_enter Tryz.func70, Tryz.ntmps70
    go_wp2_with (first | (go_at_call 44; refine H1.out.mono ?_; rintro e w' ⟨rfl, rfl⟩) | (go_at_call 97; refine (errorIfFalse_false _ _ _).mono ?_; rintro e w' ⟨rfl, rfl⟩) | go_in)
    go_ret
    exact ⟨_, rfl, .plain, Below.refl _ _⟩

/-- Is a text among others? -/
def among (ss : List ByteArray) (s : ByteArray) : Bool := ss.any fun x => x.toList == s.toList
theorem among_false {ss : List ByteArray} {s : ByteArray} (h : ∀ q (hq : q < ss.length), (ss[q].toList == s.toList) = false) : among ss s = false := by
  unfold among
  rw [List.any_eq_false]
  intro x hx
  obtain ⟨q, hq, rfl⟩ := List.mem_iff_getElem.1 hx
  rw [h q hq]; decide
theorem among_true {ss : List ByteArray} {s : ByteArray} (q : Nat) (hq : q < ss.length) (h : (ss[q].toList == s.toList) = true) : among ss s = true := by
  unfold among
  rw [List.any_eq_true]
  exact ⟨_, List.getElem_mem hq, h⟩

set_option maxHeartbeats 400000 in
theorem among_some (b o n cap : Nat) (ss : List ByteArray) (s : ByteArray) (w : World) (hn : ss.length = n) (hmax : n ≤ 9223372036854775807) (hc : ∀ j (h : j < ss.length), w.cell? ⟨b, o + j, none⟩ = some (.string ss[j])) :
    Calls Tryz.prog 100 #[.slice (some ⟨b, o, none⟩) n cap, .string s] w fun e w' => e = .returned (.bool (among ss s)) ∧ w = w' := by
  have HN := Lib.hid hn; clear hn
  have HC := Lib.hid hc; clear hc
  go_enter Tryz.func100, Tryz.ntmps100
  go_wp2
  go_loop [9] (fun i => ∃ k : Nat, k ≤ n ∧ i = .int .i64 k ∧ ∀ q (h : q < ss.length), q < k → (ss[q].toList == s.toList) = false) (fun i => n - (intOf i).toNat)
  case atStart => exact ⟨0, Nat.zero_le _, rfl, fun _ _ h => by omega⟩
  case round =>
    obtain ⟨k, hk, rfl, hall⟩ := hrel
    have HALL := Lib.hid hall; clear hall
    by_cases hlt : k < n
    · have hk' : k < ss.length := by rw [HN.out]; exact hlt
      have e0 := HC.out k hk'
      have hT := among_true (s := s) k hk'
      obtain ⟨x, hx⟩ : ∃ x, x = ss[k] := ⟨_, rfl⟩
      rw [← hx] at e0 hT
      have HX := Lib.hid hx; clear hx
      have HT := Lib.hid hT; clear hT
      rcases Bool.eq_false_or_eq_true (x.toList == s.toList) with hb | hb
      · go_wp2
        go_ret
        exact ⟨by rw [HT.out hb]; rfl, rfl⟩
      · go_wp2
        refine ⟨⟨k + 1, by omega, by go_num, fun q hq hlt2 => ?_⟩, by simp [intOf]; omega⟩
        rcases Nat.lt_or_ge q k with h' | h'
        · exact HALL.out q hq h'
        · obtain rfl : q = k := by omega
          rw [← HX.out]; exact hb
    · obtain rfl : k = n := by omega
      go_wp2
      go_ret
      exact ⟨by rw [among_false (fun q hq => HALL.out q hq (by have := HN.out; omega))]; rfl, rfl⟩

theorem among_none (a : Option Addr) (cap : Nat) (s : ByteArray) (w : World) : Calls Tryz.prog 100 #[.slice a 0 cap, .string s] w fun e w' => e = .returned (.bool false) ∧ w = w' := by
  go_enter Tryz.func100, Tryz.ntmps100
  go_wp2
  refine wp_loop_rounds 1 ?_
  rw [rounds_succ]
  go_wp2
  go_ret
  exact ⟨rfl, rfl⟩

theorem among_tells (a : Option Addr) (n cap : Nat) (ss : List ByteArray) (s : ByteArray) (w : World) (h : StrsAt w a n ss) (hmax : n ≤ 9223372036854775807) : Calls Tryz.prog 100 #[.slice a n cap, .string s] w fun e w' => e = .returned (.bool (among ss s)) ∧ w = w' := by
  obtain ⟨hl, hs⟩ := h
  by_cases h0 : n = 0
  · subst h0
    obtain rfl := List.eq_nil_of_length_eq_zero hl
    exact among_none a cap s w
  · obtain ⟨b, o, rfl, _, hc⟩ := hs h0
    exact among_some b o n cap ss s w hl hmax hc

/-- Is a text one of a list, as spec.has asks it? -/
def hasT (ss : List ByteArray) (s : ByteArray) : Bool := ss.any fun x => s.toList == x.toList
theorem hasT_false {ss : List ByteArray} {s : ByteArray} (h : ∀ q (hq : q < ss.length), (s.toList == ss[q].toList) = false) : hasT ss s = false := by
  unfold hasT
  rw [List.any_eq_false]
  intro x hx
  obtain ⟨q, hq, rfl⟩ := List.mem_iff_getElem.1 hx
  rw [h q hq]; decide
theorem hasT_true {ss : List ByteArray} {s : ByteArray} (q : Nat) (hq : q < ss.length) (h : (s.toList == ss[q].toList) = true) : hasT ss s = true := by
  unfold hasT
  rw [List.any_eq_true]
  exact ⟨_, List.getElem_mem hq, h⟩

set_option maxHeartbeats 400000 in
theorem hasT_some (b o n cap : Nat) (ss : List ByteArray) (s : ByteArray) (w : World) (hn : ss.length = n) (hmax : n ≤ 9223372036854775807) (hc : ∀ j (h : j < ss.length), w.cell? ⟨b, o + j, none⟩ = some (.string ss[j])) :
    Calls Tryz.prog 37 #[.slice (some ⟨b, o, none⟩) n cap, .string s] w fun e w' => e = .returned (.bool (hasT ss s)) ∧ w = w' := by
  have HN := Lib.hid hn; clear hn
  have HC := Lib.hid hc; clear hc
  go_enter Tryz.func37, Tryz.ntmps37
  go_wp2
  go_loop [9] (fun i => ∃ k : Nat, k ≤ n ∧ i = .int .i64 k ∧ ∀ q (h : q < ss.length), q < k → (s.toList == ss[q].toList) = false) (fun i => n - (intOf i).toNat)
  case atStart => exact ⟨0, Nat.zero_le _, rfl, fun _ _ h => by omega⟩
  case round =>
    obtain ⟨k, hk, rfl, hall⟩ := hrel
    have HALL := Lib.hid hall; clear hall
    by_cases hlt : k < n
    · have hk' : k < ss.length := by rw [HN.out]; exact hlt
      have e0 := HC.out k hk'
      have hT := hasT_true (s := s) k hk'
      obtain ⟨x, hx⟩ : ∃ x, x = ss[k] := ⟨_, rfl⟩
      rw [← hx] at e0 hT
      have HX := Lib.hid hx; clear hx
      have HT := Lib.hid hT; clear hT
      rcases Bool.eq_false_or_eq_true (s.toList == x.toList) with hb | hb
      · go_wp2
        go_ret
        exact ⟨by rw [HT.out hb]; rfl, rfl⟩
      · go_wp2
        refine ⟨⟨k + 1, by omega, by go_num, fun q hq hlt2 => ?_⟩, by simp [intOf]; omega⟩
        rcases Nat.lt_or_ge q k with h' | h'
        · exact HALL.out q hq h'
        · obtain rfl : q = k := by omega
          rw [← HX.out]; exact hb
    · obtain rfl : k = n := by omega
      go_wp2
      go_ret
      exact ⟨by rw [hasT_false (fun q hq => HALL.out q hq (by have := HN.out; omega))]; rfl, rfl⟩

theorem hasT_none (a : Option Addr) (cap : Nat) (s : ByteArray) (w : World) : Calls Tryz.prog 37 #[.slice a 0 cap, .string s] w fun e w' => e = .returned (.bool false) ∧ w = w' := by
  go_enter Tryz.func37, Tryz.ntmps37
  go_wp2
  refine wp_loop_rounds 1 ?_
  rw [rounds_succ]
  go_wp2
  go_ret
  exact ⟨rfl, rfl⟩

theorem hasT_tells (a : Option Addr) (n cap : Nat) (ss : List ByteArray) (s : ByteArray) (w : World) (h : StrsAt w a n ss) (hmax : n ≤ 9223372036854775807) : Calls Tryz.prog 37 #[.slice a n cap, .string s] w fun e w' => e = .returned (.bool (hasT ss s)) ∧ w = w' := by
  obtain ⟨hl, hs⟩ := h
  by_cases h0 : n = 0
  · subst h0
    obtain rfl := List.eq_nil_of_length_eq_zero hl
    exact hasT_none a cap s w
  · obtain ⟨b, o, rfl, _, hc⟩ := hs h0
    exact hasT_some b o n cap ss s w hl hmax hc

end Go.Proofs.YtgaaehpmbkjhlaaGreatDoor
