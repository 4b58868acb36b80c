/- impl.Date tells a date of fine claims. -/
import Derived.Test.YtgaaehpmbkjhlaaGreatDoorWDate
namespace Go.Proofs.YtgaaehpmbkjhlaaGreatDoor
open Go Go.RowKit

/-- Claims that the thin package takes and lays in a map, each name once. -/
structure Fine (cs : List Cl) : Prop where
  n : cs.length ≤ 50
  c : ∀ c ∈ cs, FineC c
  k : ∀ c ∈ cs, KindC c
  d : ∀ i j (h : i < cs.length) (h' : j < cs.length), j < i → cs[i].name ≠ cs[j].name

theorem claimsOk_fine (a : Option Addr) (n cap : Nat) (cs : List Cl) (w : World) (hm : CsAt w a n cs) (hf : Fine cs) : Calls Tryz.prog 17 #[.slice a n cap] w (YesB true w) :=
  claimsOk_true a n cap cs w hm (by rw [← hm.1]; exact hf.n) hf.c
theorem claimsOf_fine (a : Option Addr) (n cap : Nat) (cs : List Cl) (w : World) (hm : CsAt w a n cs) (hf : Fine cs) : Calls Tryz.prog 18 #[.slice a n cap] w (GivesMap cs w) :=
  claimsOf_any a n cap cs w hm hf.k hf.d

/-- Two results, beside what lay there. -/
def Gives2 (x y : Value) (w : World) (e : Ending) (w' : World) : Prop := e = .returned (.tuple #[x, y]) ∧ Below w.heap.size w w'

set_option maxRecDepth 100000 in
set_option maxHeartbeats 1000000 in
theorem date_none (a : Option Addr) (n cap : Nat) (cs : List Cl) (w : World) (hm : CsAt w a n cs) (hf : Fine cs) (s : ByteArray) (hs : s = EXP ∨ s = NBF ∨ s = IAT) (hno : findC cs s = none) :
    Calls Tryz.prog 7 #[.slice a n cap, .string s] w (Gives2 (.int .i64 0) (.int .i64 0) w) := by
  have HM := Lib.hid hm; clear hm
  have HF := Lib.hid hf; clear hf
  have HNO := Lib.hid hno; clear hno
  rcases hs with rfl | rfl | rfl
  all_goals
    go_enter Tryz.func7, Tryz.ntmps7
    go_wp2_with fail
    refine (claimsOk_fine a n cap cs _ HM.out HF.out).mono ?_
    rintro e w1 ⟨rfl, hb1⟩
    have HB1 := Lib.hid hb1; clear hb1
    go_wp2_with fail
    refine (claimsOf_fine a n cap cs _ (HM.out.below HB1.out) HF.out).mono ?_
    rintro e w2 ⟨bm, rfl, hmap, hb2⟩
    have HMAP := Lib.hid hmap; clear hmap
    have HB2 := Lib.hid (HB1.out.trans (hb2.mono HB1.out.size)); clear hb2
    go_wp2_with (first | (go_at_call 43; refine (parseDate_none bm cs _ _ HMAP.out HNO.out).mono ?_; rintro e w' ⟨rfl, rfl⟩) | go_in)
    go_ret2
    exact ⟨rfl, HB2.out⟩

set_option maxRecDepth 100000 in
set_option maxHeartbeats 1000000 in
theorem date_yes (a : Option Addr) (n cap : Nat) (cs : List Cl) (w : World) (hm : CsAt w a n cs) (hf : Fine cs) (s : ByteArray) (hs : s = EXP ∨ s = NBF ∨ s = IAT) (c : Cl) (q : Nat) (hyes : findC cs s = some c)
    (hk : c.v.k = 2) (hn : c.v.n = (q : Int)) (h0 : 1 ≤ q) (h1 : q ≤ 1099511627776) :
    Calls Tryz.prog 7 #[.slice a n cap, .string s] w (Gives2 (.int .i64 (q : Int)) (.int .i64 1) w) := by
  have HM := Lib.hid hm; clear hm
  have HF := Lib.hid hf; clear hf
  have HY := Lib.hid hyes; clear hyes
  have HK := Lib.hid hk; clear hk
  have HN := Lib.hid hn; clear hn
  rcases hs with rfl | rfl | rfl
  all_goals
    go_enter Tryz.func7, Tryz.ntmps7
    go_wp2_with fail
    refine (claimsOk_fine a n cap cs _ HM.out HF.out).mono ?_
    rintro e w1 ⟨rfl, hb1⟩
    have HB1 := Lib.hid hb1; clear hb1
    go_wp2_with fail
    refine (claimsOf_fine a n cap cs _ (HM.out.below HB1.out) HF.out).mono ?_
    rintro e w2 ⟨bm, rfl, hmap, hb2⟩
    have HMAP := Lib.hid hmap; clear hmap
    have HB2 := Lib.hid (HB1.out.trans (hb2.mono HB1.out.size)); clear hb2
    go_wp2_with (first | (go_at_call 43; refine (parseDate_yes bm cs _ _ c q HMAP.out HY.out HK.out HN.out h0 h1).mono ?_; rintro e w3 ⟨p, rfl, hp0, hp1, hb3⟩) | go_in)
    have HB3 := Lib.hid (HB2.out.trans (hb3.mono HB2.out.size)); clear hb3
    go_wp2
    go_ret2
    exact ⟨rfl, HB3.out.alloc HB3.out.size _⟩
end Go.Proofs.YtgaaehpmbkjhlaaGreatDoor
