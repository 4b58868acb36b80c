/- impl.TextOf tells a text of fine claims. -/
import Derived.Test.YtgaaehpmbkjhlaaGreatDoorWDateOf
namespace Go.Proofs.YtgaaehpmbkjhlaaGreatDoor
open Go Go.RowKit

theorem any_text {w : World} {c : Cl} {u : Value} (h : AnyAt w c u) (hk : c.v.k = 1) : u = .iface 9 (.string c.v.t) := by
  rcases h with ⟨h4, _⟩ | ⟨_, h⟩
  · rw [hk] at h4; exact absurd h4 (by decide)
  · rw [h]; unfold anyLeaf; rw [if_pos hk]

set_option maxRecDepth 100000 in
theorem parseString_none (bm : Nat) (cs : List Cl) (s : ByteArray) (w : World) (hm : MapAt w bm cs) (hf : findC cs s = none) :
    Calls Tryz.prog 44 #[.map (some bm), .string s] w fun e w' => e = .returned (.tuple #[.string ByteArray.empty, .nilIface]) ∧ w = w' := by
  have hl := run_lookup_no hm s hf
  clear hm hf
  go_enter Tryz.func44, Tryz.ntmps44
  go_wp2
  go_ret2
  exact ⟨rfl, rfl⟩

set_option maxRecDepth 100000 in
theorem parseString_yes (bm : Nat) (cs : List Cl) (s : ByteArray) (w : World) (c : Cl) (hm : MapAt w bm cs) (hf : findC cs s = some c) (hk : c.v.k = 1) :
    Calls Tryz.prog 44 #[.map (some bm), .string s] w fun e w' => e = .returned (.tuple #[.string c.v.t, .nilIface]) ∧ w = w' := by
  obtain ⟨u, hu, hl⟩ := run_lookup_yes hm s hf
  rw [any_text hu hk] at hl
  clear hu hm hf hk
  have hta := ta9_9
  go_enter Tryz.func44, Tryz.ntmps44
  go_wp2
  go_ret2
  exact ⟨rfl, rfl⟩

set_option maxRecDepth 100000 in
set_option maxHeartbeats 1000000 in
theorem textOf_none (a : Option Addr) (n cap : Nat) (cs : List Cl) (w : World) (hm : CsAt w a n cs) (hf : Fine cs) (s : ByteArray) (hs : s = ISS ∨ s = SUB) (hno : findC cs s = none) :
    Calls Tryz.prog 8 #[.slice a n cap, .string s] w (Gives2 (.string ByteArray.empty) (.bool true) w) := by
  have HM := Lib.hid hm; clear hm
  have HF := Lib.hid hf; clear hf
  have HNO := Lib.hid hno; clear hno
  rcases hs with rfl | rfl
  all_goals
    go_enter Tryz.func8, Tryz.ntmps8
    go_wp2_with fail
    refine (claimsOk_fine a n cap cs _ HM.out HF.out).mono ?_
    rintro e w1 ⟨rfl, hb1⟩
    have HB1 := Lib.hid hb1; clear hb1
    go_wp2_with fail
    refine (claimsOf_fine a n cap cs _ (HM.out.below HB1.out) HF.out).mono ?_
    rintro e w2 ⟨bm, rfl, hmap, hb2⟩
    have HMAP := Lib.hid hmap; clear hmap
    have HB2 := Lib.hid (HB1.out.trans (hb2.mono HB1.out.size)); clear hb2
    go_wp2_with (first | (go_at_call 44; refine (parseString_none bm cs _ _ HMAP.out HNO.out).mono ?_; rintro e w' ⟨rfl, rfl⟩) | go_in)
    go_ret2
    exact ⟨rfl, HB2.out⟩

set_option maxRecDepth 100000 in
set_option maxHeartbeats 1000000 in
theorem textOf_yes (a : Option Addr) (n cap : Nat) (cs : List Cl) (w : World) (hm : CsAt w a n cs) (hf : Fine cs) (s : ByteArray) (hs : s = ISS ∨ s = SUB) (c : Cl) (hyes : findC cs s = some c) (hk : c.v.k = 1) :
    Calls Tryz.prog 8 #[.slice a n cap, .string s] w (Gives2 (.string c.v.t) (.bool true) w) := by
  have HM := Lib.hid hm; clear hm
  have HF := Lib.hid hf; clear hf
  have HY := Lib.hid hyes; clear hyes
  have HK := Lib.hid hk; clear hk
  rcases hs with rfl | rfl
  all_goals
    go_enter Tryz.func8, Tryz.ntmps8
    go_wp2_with fail
    refine (claimsOk_fine a n cap cs _ HM.out HF.out).mono ?_
    rintro e w1 ⟨rfl, hb1⟩
    have HB1 := Lib.hid hb1; clear hb1
    go_wp2_with fail
    refine (claimsOf_fine a n cap cs _ (HM.out.below HB1.out) HF.out).mono ?_
    rintro e w2 ⟨bm, rfl, hmap, hb2⟩
    have HMAP := Lib.hid hmap; clear hmap
    have HB2 := Lib.hid (HB1.out.trans (hb2.mono HB1.out.size)); clear hb2
    go_wp2_with (first | (go_at_call 44; refine (parseString_yes bm cs _ _ c HMAP.out HY.out HK.out).mono ?_; rintro e w' ⟨rfl, rfl⟩) | go_in)
    go_ret2
    exact ⟨rfl, HB2.out⟩
end Go.Proofs.YtgaaehpmbkjhlaaGreatDoor
