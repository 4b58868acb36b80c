/- Settings: laws.zzFits2, spec.IsAsked, impl.settingsOk. -/
import Derived.Test.YtgaaehpmbkjhlaaGreatDoorWNums
namespace Go.Proofs.YtgaaehpmbkjhlaaGreatDoor
open Go Go.RowKit

set_option maxHeartbeats 400000 in
theorem fits3_some (b o n cap : Nat) (ss : List ByteArray) (w : World) (hn : ss.length = n) (hmax : n ≤ 9223372036854775807) (hc : ∀ j (h : j < ss.length), w.cell? ⟨b, o + j, none⟩ = some (.string ss[j])) (hsz : ∀ s ∈ ss, s.size ≤ 9223372036854775807) :
    Calls Tryz.prog 28 #[.slice (some ⟨b, o, none⟩) n cap] w (TellsQ True w) := by
  have HN := Lib.hid hn; clear hn
  have HC := Lib.hid hc; clear hc
  have HS := Lib.hid hsz; clear hsz
  go_enter Tryz.func28, Tryz.ntmps28
  go_wp2
  · go_ret
    exact TellsQ.no
  go_loop [10] (fun i => ∃ k : Nat, k ≤ n ∧ i = .int .i64 k) (fun i => n - (intOf i).toNat)
  case atStart => exact ⟨0, Nat.zero_le _, rfl⟩
  case round =>
    obtain ⟨k, hk, rfl⟩ := hrel
    by_cases hlt : k < n
    · have hk' : k < ss.length := by rw [HN.out]; exact hlt
      have e0 := HC.out k hk'
      have hs0 := HS.out _ (List.getElem_mem hk')
      obtain ⟨s, hs⟩ : ∃ s, s = ss[k] := ⟨_, rfl⟩
      rw [← hs] at e0 hs0
      clear hs
      go_wp2
      · go_ret
        exact TellsQ.no
      · exact ⟨⟨k + 1, by omega, by go_num⟩, by simp [intOf]; omega⟩
    · go_wp2
      go_ret
      exact TellsQ.yes fun _ => trivial

theorem fits3_none (a : Option Addr) (cap : Nat) (w : World) : Calls Tryz.prog 28 #[.slice a 0 cap] w (TellsQ True w) := by
  go_enter Tryz.func28, Tryz.ntmps28
  go_wp2
  refine wp_loop_rounds 1 ?_
  rw [rounds_succ]
  go_wp2
  go_ret
  exact TellsQ.yes fun _ => trivial

theorem fits3_tells (a : Option Addr) (n cap : Nat) (ss : List ByteArray) (w : World) (h : StrsAt w a n ss) (hmax : n ≤ maxLen) (hsz : ∀ s ∈ ss, s.size ≤ maxLen) : Calls Tryz.prog 28 #[.slice a n cap] w (TellsQ True w) := by
  obtain ⟨hl, hs⟩ := h
  by_cases h0 : n = 0
  · subst h0; exact fits3_none a cap w
  · obtain ⟨b, o, rfl, _, hc⟩ := hs h0
    exact fits3_some b o n cap ss w hl hmax hc hsz

set_option maxHeartbeats 400000 in
theorem areTexts_some (b o n cap : Nat) (ss : List ByteArray) (w : World) (hn : ss.length = n) (hmax : n ≤ 9223372036854775807) (hc : ∀ j (h : j < ss.length), w.cell? ⟨b, o + j, none⟩ = some (.string ss[j])) (hsz : ∀ s ∈ ss, s.size ≤ maxLen) :
    Calls Tryz.prog 29 #[.slice (some ⟨b, o, none⟩) n cap] w (TellsQ (n ≤ 10 ∧ ∀ s ∈ ss, IsTextP s) w) := by
  have HN := Lib.hid hn; clear hn
  have HC := Lib.hid hc; clear hc
  have HS := Lib.hid hsz; clear hsz
  go_enter Tryz.func29, Tryz.ntmps29
  go_wp2
  go_loop [7] (fun i => ∃ k : Nat, k ≤ n ∧ i = .int .i64 k ∧ ∀ q (h : q < ss.length), q < k → IsTextP ss[q]) (fun i => n - (intOf i).toNat)
  case atStart => exact ⟨0, Nat.zero_le _, rfl, fun _ _ h => by omega⟩
  case round =>
    obtain ⟨k, hk, rfl, hall⟩ := hrel
    have HALL := Lib.hid hall; clear hall
    by_cases hlt : k < n
    · have hk' : k < ss.length := by rw [HN.out]; exact hlt
      have e0 := HC.out k hk'
      have hs0 := HS.out _ (List.getElem_mem hk')
      obtain ⟨s, hs⟩ : ∃ s, s = ss[k] := ⟨_, rfl⟩
      rw [← hs] at e0 hs0
      have HSS := Lib.hid hs; clear hs
      go_wp2_with (first | (go_at_call 30; refine (isText_tells _ _ hs0).mono ?_; rintro e w' ⟨r, rfl, hr, rfl⟩; cases r) | go_in)
      · go_ret
        exact TellsQ.no
      · refine ⟨⟨k + 1, by omega, by go_num, fun q hq hlt2 => ?_⟩, by simp [intOf]; omega⟩
        rcases Nat.lt_or_ge q k with h' | h'
        · exact HALL.out q hq h'
        · obtain rfl : q = k := by omega
          rw [← HSS.out]; exact hr (by trivial)
    · obtain rfl : k = n := by omega
      go_wp2
      go_ret
      refine TellsQ.yes fun h => ⟨by simp at h; omega, fun s hs => ?_⟩
      obtain ⟨q, hq, rfl⟩ := List.mem_iff_getElem.1 hs
      exact HALL.out q hq (by have := HN.out; omega)

theorem areTexts_none (a : Option Addr) (cap : Nat) (w : World) : Calls Tryz.prog 29 #[.slice a 0 cap] w (TellsQ True w) := by
  go_enter Tryz.func29, Tryz.ntmps29
  go_wp2
  refine wp_loop_rounds 1 ?_
  rw [rounds_succ]
  go_wp2
  go_ret
  exact TellsQ.yes fun _ => trivial

theorem areTexts_tells (a : Option Addr) (n cap : Nat) (ss : List ByteArray) (w : World) (h : StrsAt w a n ss) (hmax : n ≤ maxLen) (hsz : ∀ s ∈ ss, s.size ≤ maxLen) : Calls Tryz.prog 29 #[.slice a n cap] w (TellsQ (n ≤ 10 ∧ ∀ s ∈ ss, IsTextP s) w) := by
  obtain ⟨hl, hs⟩ := h
  by_cases h0 : n = 0
  · subst h0
    obtain rfl := List.eq_nil_of_length_eq_zero hl
    refine (areTexts_none a cap w).mono fun e w' ⟨r, he, _, hw⟩ => ⟨r, he, fun _ => ⟨by omega, by simp⟩, hw⟩
  · obtain ⟨b, o, rfl, _, hc⟩ := hs h0
    exact areTexts_some b o n cap ss w hl hmax hc hsz

/-- Settings. -/
structure St where
  now : Int
  leeway : Int
  ma : Option Addr
  ml : Nat
  mc : Nat
  ms : List ByteArray
  aa : Option Addr
  al : Nat
  ac : Nat
  auds : List ByteArray
  all : Bool
  iss : ByteArray
  sub : ByteArray
  nexp : Bool
  nnbf : Bool
  iat : Bool
  un : Bool
  pad : Bool
  str : Bool

def St.vals (s : St) : Array Value := #[.int .i64 s.now, .int .i64 s.leeway, .slice s.ma s.ml s.mc, .slice s.aa s.al s.ac, .bool s.all, .string s.iss, .string s.sub, .bool s.nexp, .bool s.nnbf, .bool s.iat, .bool s.un, .bool s.pad, .bool s.str]

structure StAt (w : World) (s : St) : Prop where
  now : -9223372036854775808 ≤ s.now ∧ s.now ≤ 9223372036854775807
  lee : -9223372036854775808 ≤ s.leeway ∧ s.leeway ≤ 9223372036854775807
  m : StrsAt w s.ma s.ml s.ms
  a : StrsAt w s.aa s.al s.auds
  mz : ∀ t ∈ s.ms, t.size ≤ maxLen
  az : ∀ t ∈ s.auds, t.size ≤ maxLen
  ml : s.ml ≤ maxLen
  al : s.al ≤ maxLen
  iz : s.iss.size ≤ maxLen
  sz : s.sub.size ≤ maxLen

theorem StAt.below {w w' : World} {s : St} (h : StAt w s) (hb : Below w.heap.size w w') : StAt w' s :=
  ⟨h.now, h.lee, h.m.below hb, h.a.below hb, h.mz, h.az, h.ml, h.al, h.iz, h.sz⟩

set_option maxRecDepth 100000 in
set_option maxHeartbeats 1000000 in
theorem fits2_tells (s : St) (w : World) (h : StAt w s) : Calls Tryz.prog 11 #[.agg s.vals] w (Tells True w) := by
  obtain ⟨now, leeway, ma, ml, mc, ms, aa, al, ac, auds, all, iss, sub, nexp, nnbf, iat, un, pad, str⟩ := s
  obtain ⟨_, _, hm, ha, hmz, haz, hml, hal, hiz, hsz⟩ := h
  simp only at hm ha hmz haz hml hal hiz hsz
  unfold St.vals
  simp only
  have hiz' : iss.size ≤ 9223372036854775807 := hiz
  have hsz' : sub.size ≤ 9223372036854775807 := hsz
  obtain ⟨W1, hW⟩ : ∃ W1, W1 = w.alloc (.cells #[.int .i64 now, .int .i64 leeway, .slice ma ml mc, .slice aa al ac, .bool all, .string iss, .string sub, .bool nexp, .bool nnbf, .bool iat, .bool un, .bool pad, .bool str] 38) := ⟨_, rfl⟩
  have hb1 : Below w.heap.size w W1 := by rw [hW]; exact below1 _ _
  have h1 := fits3_tells ma ml mc ms W1 (hm.below hb1) hml hmz
  have h2 := fits3_tells aa al ac auds W1 (ha.below hb1) hal haz
  rw [hW] at h1 h2 hb1
  have H1 := Lib.hid h1
  have H2 := Lib.hid h2
  have HB := Lib.hid hb1
  clear h1 h2 hb1 hm ha hmz haz hml hal hW W1 hiz hsz
  go_enter Tryz.func11, Tryz.ntmps11
  go_wp2_with fail
  refine H1.out.mono ?_
  rintro e w' ⟨r1, rfl, _, rfl⟩
  cases r1
  · go_wp2
    go_ret
    exact Tells.no HB.out
  · go_wp2_with fail
    refine H2.out.mono ?_
    rintro e w' ⟨r2, rfl, _, rfl⟩
    cases r2
    · go_wp2
      go_ret
      exact Tells.no HB.out
    · go_wp2
      all_goals go_ret
      all_goals first | exact Tells.no HB.out | exact Tells.yes (fun _ => trivial) HB.out

/-- Right settings. -/
structure Asked (s : St) : Prop where
  now : 0 ≤ s.now ∧ s.now ≤ 1099511627776
  lee : 0 ≤ s.leeway ∧ s.leeway ≤ 1000000000000000
  whole : s.leeway % 1000000000 = 0
  m : s.ml ≤ 10 ∧ ∀ t ∈ s.ms, IsTextP t
  a : s.al ≤ 10 ∧ ∀ t ∈ s.auds, IsTextP t
  iss : s.iss.size ≤ 40
  sub : s.sub.size ≤ 40

theorem small_empty {s : ByteArray} (h : (s.toList == []) = true) : s.size ≤ 40 := by
  have := size_of_nil (by simpa using h); omega

set_option maxRecDepth 100000 in
set_option maxHeartbeats 1000000 in
theorem isAsked_tells (s : St) (w : World) (h : StAt w s) : Calls Tryz.prog 12 #[.agg s.vals] w (Tells (Asked s) w) := by
  obtain ⟨now, leeway, ma, ml, mc, ms, aa, al, ac, auds, all, iss, sub, nexp, nnbf, iat, un, pad, str⟩ := s
  obtain ⟨_, _, hm, ha, hmz, haz, hml, hal, hiz, hsz⟩ := h
  simp only at hm ha hmz haz hml hal hiz hsz
  unfold St.vals
  simp only
  obtain ⟨W1, hW⟩ : ∃ W1, W1 = w.alloc (.cells #[.int .i64 now, .int .i64 leeway, .slice ma ml mc, .slice aa al ac, .bool all, .string iss, .string sub, .bool nexp, .bool nnbf, .bool iat, .bool un, .bool pad, .bool str] 38) := ⟨_, rfl⟩
  have hb1 : Below w.heap.size w W1 := by rw [hW]; exact below1 _ _
  have h1 := areTexts_tells ma ml mc ms W1 (hm.below hb1) hml hmz
  have h2 := areTexts_tells aa al ac auds W1 (ha.below hb1) hal haz
  have h3 := isText_tells iss W1 hiz
  have h4 := isText_tells sub W1 hsz
  rw [hW] at h1 h2 h3 h4 hb1
  have H1 := Lib.hid h1
  have H2 := Lib.hid h2
  have H3 := Lib.hid h3
  have H4 := Lib.hid h4
  have HB := Lib.hid hb1
  clear h1 h2 h3 h4 hb1 hm ha hmz haz hml hal hW W1 hiz hsz
  by_cases a1 : 0 ≤ now
  rotate_left
  · go_enter Tryz.func12, Tryz.ntmps12
    go_wp2
    go_ret
    exact Tells.no HB.out
  by_cases a2 : now ≤ 1099511627776
  rotate_left
  · go_enter Tryz.func12, Tryz.ntmps12
    go_wp2
    go_ret
    exact Tells.no HB.out
  by_cases a3 : 0 ≤ leeway
  rotate_left
  · go_enter Tryz.func12, Tryz.ntmps12
    go_wp2
    go_ret
    exact Tells.no HB.out
  by_cases a4 : leeway ≤ 1000000000000000
  rotate_left
  · go_enter Tryz.func12, Tryz.ntmps12
    go_wp2
    go_ret
    exact Tells.no HB.out
  by_cases a5 : leeway % 1000000000 = 0
  rotate_left
  · go_enter Tryz.func12, Tryz.ntmps12
    go_wp2
    go_ret
    exact Tells.no HB.out
  have A : ∀ (s1 : iss.size ≤ 40) (s2 : sub.size ≤ 40) (m : ml ≤ 10 ∧ ∀ t ∈ ms, IsTextP t) (a : al ≤ 10 ∧ ∀ t ∈ auds, IsTextP t), Asked ⟨now, leeway, ma, ml, mc, ms, aa, al, ac, auds, all, iss, sub, nexp, nnbf, iat, un, pad, str⟩ := fun s1 s2 m a => ⟨⟨a1, a2⟩, ⟨a3, a4⟩, a5, m, a, s1, s2⟩
  have HA := Lib.hid A
  clear A
  rcases Bool.eq_false_or_eq_true (iss.toList == []) with hi | hi
  all_goals rcases Bool.eq_false_or_eq_true (sub.toList == []) with hj | hj
  all_goals
    go_enter Tryz.func12, Tryz.ntmps12
    go_wp2_with fail
    refine H1.out.mono ?_
    rintro e w' ⟨r1, rfl, hr1, rfl⟩
    have HR1 := Lib.hid hr1; clear hr1
    cases r1
    · go_wp2
      go_ret
      exact Tells.no HB.out
    go_wp2_with fail
    refine H2.out.mono ?_
    rintro e w' ⟨r2, rfl, hr2, rfl⟩
    have HR2 := Lib.hid hr2; clear hr2
    cases r2
    · go_wp2
      go_ret
      exact Tells.no HB.out
  · go_wp2
    go_ret
    exact Tells.yes (fun _ => HA.out (s1 := small_empty hi) (s2 := small_empty hj) (m := HR1.out (by trivial)) (a := HR2.out (by trivial))) HB.out
  · go_wp2_with fail
    refine H4.out.mono ?_
    rintro e w' ⟨r4, rfl, hr4, rfl⟩
    go_wp2
    go_ret
    exact Tells.yes (fun h => HA.out (s1 := small_empty hi) (s2 := (hr4 h).2) (m := HR1.out (by trivial)) (a := HR2.out (by trivial))) HB.out
  · go_wp2_with fail
    refine H3.out.mono ?_
    rintro e w' ⟨r3, rfl, hr3, rfl⟩
    cases r3
    · go_wp2
      go_ret
      exact Tells.no HB.out
    · go_wp2
      go_ret
      exact Tells.yes (fun _ => HA.out (s1 := (hr3 (by trivial)).2) (s2 := small_empty hj) (m := HR1.out (by trivial)) (a := HR2.out (by trivial))) HB.out
  · go_wp2_with fail
    refine H3.out.mono ?_
    rintro e w' ⟨r3, rfl, hr3, rfl⟩
    cases r3
    · go_wp2
      go_ret
      exact Tells.no HB.out
    · go_wp2_with fail
      refine H4.out.mono ?_
      rintro e w' ⟨r4, rfl, hr4, rfl⟩
      go_wp2
      go_ret
      exact Tells.yes (fun h => HA.out (s1 := (hr3 (by trivial)).2) (s2 := (hr4 h).2) (m := HR1.out (by trivial)) (a := HR2.out (by trivial))) HB.out

theorem Asked.small {s : St} (h : Asked s) : (∀ t ∈ s.ms, t.size ≤ 4096) ∧ (∀ t ∈ s.auds, t.size ≤ 4096) :=
  ⟨fun t ht => by have := (h.m.2 t ht).2; omega, fun t ht => by have := (h.a.2 t ht).2; omega⟩

/-- Settings that the thin package takes. -/
structure FineS (s : St) : Prop where
  now : 0 ≤ s.now ∧ s.now ≤ 1099511627776
  lee : 0 ≤ s.leeway ∧ s.leeway ≤ 1000000000000000
  m : s.ml ≤ 50 ∧ ∀ t ∈ s.ms, t.size ≤ 4096
  a : s.al ≤ 50 ∧ ∀ t ∈ s.auds, t.size ≤ 4096
  iss : s.iss.size ≤ 4096
  sub : s.sub.size ≤ 4096
theorem Asked.fine {s : St} (h : Asked s) : FineS s := ⟨h.now, h.lee, ⟨by have := h.m.1; omega, h.small.1⟩, ⟨by have := h.a.1; omega, h.small.2⟩, by have := h.iss; omega, by have := h.sub; omega⟩

end Go.Proofs.YtgaaehpmbkjhlaaGreatDoor
