/- Claims of other types than theirs: the package's errors, and what the thin package tells of them. -/
import Derived.Test.YtgaaehpmbkjhlaaGreatDoorWVal13
namespace Go.Proofs.YtgaaehpmbkjhlaaGreatDoor
open Go Go.RowKit

theorem any_num {w : World} {c : Cl} {u : Value} (h : AnyAt w c u) (hk : c.v.k = 2) : u = .iface 121 (.float .f64 (floatOfInt .f64 c.v.n)) := by
  rcases h with ⟨h4, _⟩ | ⟨_, h⟩
  · rw [hk] at h4; exact absurd h4 (by decide)
  · rw [h]; unfold anyLeaf; rw [if_neg (by rw [hk]; decide), if_pos hk]
theorem any_bool {w : World} {c : Cl} {u : Value} (h : AnyAt w c u) (hk : c.v.k = 5) : u = .iface 4 (.bool (c.v.n != 0)) := by
  rcases h with ⟨h4, _⟩ | ⟨_, h⟩
  · rw [hk] at h4; exact absurd h4 (by decide)
  · rw [h]; unfold anyLeaf; rw [if_neg (by rw [hk]; decide), if_neg (by rw [hk]; decide)]

/-- Two results, the second an error of a sentinel. -/
def Gives2E (x : Value) (a : Addr) (w : World) (e : Ending) (w' : World) : Prop := ∃ v, e = .returned (.tuple #[x, v]) ∧ ErrAt w' a w.heap.size v ∧ Below w.heap.size w w'

set_option maxRecDepth 100000 in
set_option maxHeartbeats 1000000 in
theorem parseDate_text (se : Nat → Addr) (bm : Nat) (cs : List Cl) (s : ByteArray) (w : World) (c : Cl) (hse : Sen w se) (hs : s.size ≤ 100) (hm : MapAt w bm cs) (hf : findC cs s = some c) (hk : c.v.k = 1) :
    Calls Tryz.prog 43 #[.map (some bm), .string s] w (Gives2E (.pointer none) (se 13) w) := by
  obtain ⟨u, hu, hl⟩ := run_lookup_yes hm s hf
  rw [any_text hu hk] at hl
  clear hu hm hf hk
  have t1 := ta9_121
  have t2 := ta9_122
  have hg := hse.glob 13 (by decide)
  obtain ⟨t, ht, h100⟩ := hse.text 13 (by decide)
  have HT := Lib.hid ht; clear ht hse
  go_enter Tryz.func43, Tryz.ntmps43
  go_wp2_with (first | (go_at_call 80; refine (newError_is _ t (se 13) w HT.out (by rw [ByteArray.size_append]; exact Nat.le_trans (Nat.add_le_add_right hs _) (by decide)) (by omega)).mono ?_; rintro e w' ⟨v, rfl, hv, hb⟩; obtain ⟨T, y, rfl⟩ := hv.form) | go_in)
  go_ret2
  exact ⟨_, rfl, hv, hb⟩

set_option maxRecDepth 100000 in
set_option maxHeartbeats 1000000 in
theorem parseString_bad (se : Nat → Addr) (bm : Nat) (cs : List Cl) (s : ByteArray) (w : World) (c : Cl) (hse : Sen w se) (hs : s.size ≤ 100) (hm : MapAt w bm cs) (hf : findC cs s = some c) (hk : c.v.k = 2 ∨ c.v.k = 5) :
    Calls Tryz.prog 44 #[.map (some bm), .string s] w (Gives2E (.string ByteArray.empty) (se 13) w) := by
  obtain ⟨u, hu, hl⟩ := run_lookup_yes hm s hf
  have hg := hse.glob 13 (by decide)
  obtain ⟨t, ht, h100⟩ := hse.text 13 (by decide)
  have HT := Lib.hid ht; clear ht hse
  have t1 := ta121_9
  have t2 := ta4_9
  rcases hk with hk | hk
  · rw [any_num hu hk] at hl
    clear hu hm hf hk
    generalize floatOfInt .f64 c.v.n = q at hl
    go_enter Tryz.func44, Tryz.ntmps44
    go_wp2_with (first | (go_at_call 80; refine (newError_is _ t (se 13) w HT.out (by rw [ByteArray.size_append]; exact Nat.le_trans (Nat.add_le_add_right hs _) (by decide)) (by omega)).mono ?_; rintro e w' ⟨v, rfl, hv, hb⟩; obtain ⟨T, y, rfl⟩ := hv.form) | go_in)
    go_ret2
    exact ⟨_, rfl, hv, hb⟩
  · rw [any_bool hu hk] at hl
    clear hu hm hf hk
    generalize (c.v.n != 0) = q at hl
    go_enter Tryz.func44, Tryz.ntmps44
    go_wp2_with (first | (go_at_call 80; refine (newError_is _ t (se 13) w HT.out (by rw [ByteArray.size_append]; exact Nat.le_trans (Nat.add_le_add_right hs _) (by decide)) (by omega)).mono ?_; rintro e w' ⟨v, rfl, hv, hb⟩; obtain ⟨T, y, rfl⟩ := hv.form) | go_in)
    go_ret2
    exact ⟨_, rfl, hv, hb⟩

set_option maxRecDepth 100000 in
set_option maxHeartbeats 1000000 in
theorem parseAud_bad (se : Nat → Addr) (bm : Nat) (cs : List Cl) (s : ByteArray) (w : World) (c : Cl) (x : V) (hse : Sen w se) (hs : s.size ≤ 100) (hm : MapAt w bm cs) (hf : findC cs s = some c) (hk : c.v.k = 4) (hx : c.xs = [x]) (hxk : x.k = 2) :
    Calls Tryz.prog 45 #[.map (some bm), .string s] w (Gives2E (.slice none 0 0) (se 13) w) := by
  obtain ⟨u, hu, hl⟩ := run_look1_yes hm s hf
  have hg := hse.glob 13 (by decide)
  obtain ⟨t, ht, h100⟩ := hse.text 13 (by decide)
  have HT := Lib.hid ht; clear ht hse
  rcases hu with ⟨_, sl, rfl, ho⟩ | ⟨h4, _⟩
  rotate_left
  · exact absurd hk h4
  rw [hx] at ho
  clear hx hm hf hk
  obtain ⟨g, cap, rfl, _, hgl⟩ := ho.form (by simp)
  have e0 : w.cell? ⟨g, 0, none⟩ = some (.iface 121 (.float .f64 (floatOfInt .f64 x.n))) := by
    have := ho.cells (g := g) rfl 0 (anyLeaf x) rfl
    rw [Addr.add_mid] at this
    simpa [anyLeaf, hxk] using this
  clear ho hxk
  generalize floatOfInt .f64 x.n = q at e0
  have t1 := ta123_9
  have t2 := ta123_24
  have t3 := ta123_123
  have t4 := ta121_9
  go_enter Tryz.func45, Tryz.ntmps45
  go_wp2
  refine wp_loop_rounds 2 ?_
  rw [rounds_succ]
  go_wp2_with (first | (go_at_call 80; refine (newError_is _ t (se 13) w HT.out (by rw [ByteArray.size_append]; exact Nat.le_trans (Nat.add_le_add_right hs _) (by decide)) (by omega)).mono ?_; rintro e w' ⟨v, rfl, hv, hb⟩; obtain ⟨T, y, rfl⟩ := hv.form) | go_in)
  go_ret2
  exact ⟨_, rfl, hv, hb⟩

theorem names_100 : EXP.size ≤ 100 ∧ NBF.size ≤ 100 ∧ IAT.size ≤ 100 ∧ ISS.size ≤ 100 ∧ SUB.size ≤ 100 ∧ AUD.size ≤ 100 := by decide

set_option maxRecDepth 100000 in
set_option maxHeartbeats 1000000 in
theorem date_bad (se : Nat → Addr) (a : Option Addr) (n cap : Nat) (cs : List Cl) (w : World) (hse : Sen w se) (hm : CsAt w a n cs) (hf : Fine cs) (s : ByteArray) (hs : s = EXP ∨ s = NBF ∨ s = IAT) (c : Cl) (hyes : findC cs s = some c) (hk : c.v.k = 1) :
    Calls Tryz.prog 7 #[.slice a n cap, .string s] w (Gives2 (.int .i64 0) (.int .i64 2) w) := by
  have HSE := Lib.hid hse; clear hse
  have HM := Lib.hid hm; clear hm
  have HF := Lib.hid hf; clear hf
  have HY := Lib.hid hyes; clear hyes
  have HK := Lib.hid hk; clear hk
  rcases hs with rfl | rfl | rfl
  all_goals
    go_enter Tryz.func7, Tryz.ntmps7
    go_wp2_with fail
    refine (claimsOk_fine a n cap cs _ HM.out HF.out).mono ?_
    rintro e w1 ⟨rfl, hb1⟩
    have HB1 := Lib.hid hb1; clear hb1
    go_wp2_with fail
    refine (claimsOf_fine a n cap cs _ (HM.out.below HB1.out) HF.out).mono ?_
    rintro e w2 ⟨bm, rfl, hmap, hb2⟩
    have HMAP := Lib.hid hmap; clear hmap
    have HB2 := Lib.hid (HB1.out.trans (hb2.mono HB1.out.size)); clear hb2
    go_wp2_with (first | (go_at_call 43; refine (parseDate_text se bm cs _ _ c (HSE.out.below HB2.out) (by decide) HMAP.out HY.out HK.out).mono ?_; rintro e w3 ⟨v, rfl, hv, hb3⟩; obtain ⟨T, y, rfl⟩ := hv.form; have HB3 := Lib.hid (HB2.out.trans (hb3.mono HB2.out.size)); clear hb3 hv) | go_in)
    go_ret2
    exact ⟨rfl, HB3.out⟩

set_option maxRecDepth 100000 in
set_option maxHeartbeats 1000000 in
theorem textOf_bad (se : Nat → Addr) (a : Option Addr) (n cap : Nat) (cs : List Cl) (w : World) (hse : Sen w se) (hm : CsAt w a n cs) (hf : Fine cs) (s : ByteArray) (hs : s = ISS ∨ s = SUB) (c : Cl) (hyes : findC cs s = some c) (hk : c.v.k = 2 ∨ c.v.k = 5) :
    Calls Tryz.prog 8 #[.slice a n cap, .string s] w (Gives2 (.string ByteArray.empty) (.bool false) w) := by
  have HSE := Lib.hid hse; clear hse
  have HM := Lib.hid hm; clear hm
  have HF := Lib.hid hf; clear hf
  have HY := Lib.hid hyes; clear hyes
  have HK := Lib.hid hk; clear hk
  rcases hs with rfl | rfl
  all_goals
    go_enter Tryz.func8, Tryz.ntmps8
    go_wp2_with fail
    refine (claimsOk_fine a n cap cs _ HM.out HF.out).mono ?_
    rintro e w1 ⟨rfl, hb1⟩
    have HB1 := Lib.hid hb1; clear hb1
    go_wp2_with fail
    refine (claimsOf_fine a n cap cs _ (HM.out.below HB1.out) HF.out).mono ?_
    rintro e w2 ⟨bm, rfl, hmap, hb2⟩
    have HMAP := Lib.hid hmap; clear hmap
    have HB2 := Lib.hid (HB1.out.trans (hb2.mono HB1.out.size)); clear hb2
    go_wp2_with (first | (go_at_call 44; refine (parseString_bad se bm cs _ _ c (HSE.out.below HB2.out) (by decide) HMAP.out HY.out HK.out).mono ?_; rintro e w3 ⟨v, rfl, hv, hb3⟩; obtain ⟨T, y, rfl⟩ := hv.form; have HB3 := Lib.hid (HB2.out.trans (hb3.mono HB2.out.size)); clear hb3 hv) | go_in)
    go_ret2
    exact ⟨rfl, HB3.out⟩

set_option maxRecDepth 100000 in
set_option maxHeartbeats 1000000 in
theorem audienceOf_bad (se : Nat → Addr) (a : Option Addr) (n cap : Nat) (cs : List Cl) (w : World) (hse : Sen w se) (hm : CsAt w a n cs) (hf : Fine cs) (c : Cl) (x : V) (hyes : findC cs AUD = some c) (hk : c.v.k = 4) (hx : c.xs = [x]) (hxk : x.k = 2) :
    Calls Tryz.prog 9 #[.slice a n cap] w (Gives2 (.slice none 0 0) (.bool false) w) := by
  have HSE := Lib.hid hse; clear hse
  have HM := Lib.hid hm; clear hm
  have HF := Lib.hid hf; clear hf
  have HY := Lib.hid hyes; clear hyes
  have HK := Lib.hid hk; clear hk
  have HX := Lib.hid hx; clear hx
  have HXK := Lib.hid hxk; clear hxk
  go_enter Tryz.func9, Tryz.ntmps9
  go_wp2_with fail
  refine (claimsOk_fine a n cap cs _ HM.out HF.out).mono ?_
  rintro e w1 ⟨rfl, hb1⟩
  have HB1 := Lib.hid hb1; clear hb1
  go_wp2_with fail
  refine (claimsOf_fine a n cap cs _ (HM.out.below HB1.out) HF.out).mono ?_
  rintro e w2 ⟨bm, rfl, hmap, hb2⟩
  have HMAP := Lib.hid hmap; clear hmap
  have HB2 := Lib.hid (HB1.out.trans (hb2.mono HB1.out.size)); clear hb2
  go_wp2_with (first | (go_at_call 45; refine (parseAud_bad se bm cs _ _ c x (HSE.out.below HB2.out) (by decide) HMAP.out HY.out HK.out HX.out HXK.out).mono ?_; rintro e w3 ⟨v, rfl, hv, hb3⟩; obtain ⟨T, y, rfl⟩ := hv.form; have HB3 := Lib.hid (HB2.out.trans (hb3.mono HB2.out.size)); clear hb3 hv) | (go_at_call 25; go_in))
  go_ret2
  exact ⟨rfl, HB3.out⟩

set_option maxRecDepth 100000 in
set_option maxHeartbeats 1000000 in
theorem verExp_bad (se : Nat → Addr) (v bm : Nat) (cs : List Cl) (now : Int) (req : Bool) (w : World) (c : Cl) (hse : Sen w se) (hm : MapAt w bm cs) (hf : findC cs EXP = some c) (hk : c.v.k = 1) :
    Calls Tryz.prog 65 #[.pointer (some ⟨v, 0, none⟩), .iface 47 (.map (some bm)), timeV now, .bool req] w (GivesO (some (se 13)) w) := by
  have hb1 := below1 w (.cells #[.int .i64 now, .int .i64 0] 56)
  have H1 := Lib.hid (parseDate_text se bm cs EXP _ c (hse.below hb1) (by decide) (hm.below hb1) hf hk)
  have HB := Lib.hid hb1; clear hb1
  clear hse hm hf hk
  unfold timeV
  go_enter Tryz.func65, Tryz.ntmps65
  go_wp2_with (first | (go_at_call 43; refine H1.out.mono ?_; rintro e w' ⟨v, rfl, hv, hb⟩; obtain ⟨T, y, rfl⟩ := hv.form) | go_in)
  go_ret
  exact ⟨_, rfl, hv.mono HB.out.size, HB.out.trans (hb.mono HB.out.size)⟩
end Go.Proofs.YtgaaehpmbkjhlaaGreatDoor
