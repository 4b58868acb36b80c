/- The validator's checks of dates. -/
import Derived.Test.YtgaaehpmbkjhlaaGreatDoorWTime
import Derived.Test.YtgaaehpmbkjhlaaGreatDoorWOpt
import Derived.Deep.CutRange
namespace Go.Proofs.YtgaaehpmbkjhlaaGreatDoor
open Go Go.RowKit
attribute [local go_sem ↓] Go.wp_at_zero Go.wp_at_succ

/-- An error of a sentinel, or nil. -/
def GivesO (a : Option Addr) (w : World) (e : Ending) (w' : World) : Prop := match a with | none => e = .returned .nilIface ∧ Below w.heap.size w w' | some a => GivesErr a w e w'

theorem keep6 {w w' : World} {a1 a2 a3 a4 a5 a6 : Addr} {x1 x2 x3 x4 x5 x6 : Value} (h : w.cell? a1 = some x1 ∧ w.cell? a2 = some x2 ∧ w.cell? a3 = some x3 ∧ w.cell? a4 = some x4 ∧ w.cell? a5 = some x5 ∧ w.cell? a6 = some x6) (hb : Below w.heap.size w w') :
    w'.cell? a1 = some x1 ∧ w'.cell? a2 = some x2 ∧ w'.cell? a3 = some x3 ∧ w'.cell? a4 = some x4 ∧ w'.cell? a5 = some x5 ∧ w'.cell? a6 = some x6 :=
  ⟨cell_below h.1 hb, cell_below h.2.1 hb, cell_below h.2.2.1 hb, cell_below h.2.2.2.1 hb, cell_below h.2.2.2.2.1 hb, cell_below h.2.2.2.2.2 hb⟩

set_option maxRecDepth 100000 in
set_option maxHeartbeats 1000000 in
theorem verExp_none (se : Nat → Addr) (v bm : Nat) (cs : List Cl) (now : Int) (req : Bool) (w : World) (hse : Sen w se) (hm : MapAt w bm cs) (hf : findC cs EXP = none) :
    Calls Tryz.prog 65 #[.pointer (some ⟨v, 0, none⟩), .iface 47 (.map (some bm)), timeV now, .bool req] w (GivesO (if req then some (se 3) else none) w) := by
  have hb1 := below1 w (.cells #[.int .i64 now, .int .i64 0] 56)
  have H1 := Lib.hid (parseDate_none bm cs EXP _ (hm.below hb1) hf)
  have H2 := Lib.hid (errorIfRequired_yes EXP se _ (hse.below hb1) (by decide))
  have H3 := Lib.hid (errorIfRequired_no EXP (w.alloc (.cells #[.int .i64 now, .int .i64 0] 56)))
  have HB := Lib.hid hb1; clear hb1
  clear hse hm hf
  unfold timeV
  cases req
  · go_enter Tryz.func65, Tryz.ntmps65
    go_wp2_with (first | (go_at_call 43; refine H1.out.mono ?_; rintro e w' ⟨rfl, rfl⟩) | (go_at_call 96; refine H3.out.mono ?_; rintro e w' ⟨rfl, rfl⟩) | go_in)
    go_ret
    exact ⟨rfl, HB.out⟩
  · go_enter Tryz.func65, Tryz.ntmps65
    go_wp2_with (first | (go_at_call 43; refine H1.out.mono ?_; rintro e w' ⟨rfl, rfl⟩) | (go_at_call 96; refine H2.out.mono ?_; rintro e w' ⟨v, rfl, hv, hb⟩; obtain ⟨T, y, rfl⟩ := hv.form) | go_in)
    go_ret
    exact ⟨_, rfl, hv.mono HB.out.size, HB.out.trans (hb.mono HB.out.size)⟩

set_option maxRecDepth 100000 in
set_option maxHeartbeats 2000000 in
theorem verExp_yes (se : Nat → Addr) (v bm : Nat) (cs : List Cl) (now L : Int) (req : Bool) (w : World) (c : Cl) (q : Nat) (hse : Sen w se) (hm : MapAt w bm cs) (hf : findC cs EXP = some c) (hk : c.v.k = 2) (hn : c.v.n = (q : Int)) (h0 : 1 ≤ q) (h1 : q ≤ 1099511627776)
    (hL : 0 ≤ L ∧ L ≤ 1000000) (hlee : w.cell? ⟨v, 0, none⟩ = some (.int .i64 (1000000000 * L))) :
    Calls Tryz.prog 65 #[.pointer (some ⟨v, 0, none⟩), .iface 47 (.map (some bm)), timeV now, .bool req] w (GivesO (if now < ((q : Int) + L) then none else some (se 5)) w) := by
  have hb1 := below1 w (.cells #[.int .i64 now, .int .i64 0] 56)
  have H1 := Lib.hid (parseDate_yes bm cs EXP _ c q (hm.below hb1) hf hk hn h0 h1)
  have c0 : (w.alloc (.cells #[.int .i64 now, .int .i64 0] 56)).cell? ⟨w.heap.size, 0, none⟩ = some (.int .i64 now) := by simp [go_sem]
  have c1 : (w.alloc (.cells #[.int .i64 now, .int .i64 0] 56)).cell? ⟨w.heap.size, 1, none⟩ = some (.int .i64 0) := by simp [go_sem]
  have c2 := cell_below hlee hb1
  have c3 := cell_below (hse.glob 5 (by decide)) hb1
  have HB := Lib.hid hb1; clear hb1
  have C := Lib.hid (And.intro c0 (And.intro c1 (And.intro c2 c3)))
  clear c0 c1 c2 c3 hse hm hf hlee hk hn
  have hA : ∀ w, Calls Tryz.prog 99 #[timeV (q : Int), .int .i64 (1000000000 * L)] w (Gives (timeV ((q : Int) + L)) w) := fun w => add_gives (q : Int) L w (by omega) (by omega) (by omega) (by omega)
  have HA := Lib.hid hA; clear hA
  by_cases hc : now < ((q : Int) + L)
  · have hB : ∀ w, Calls Tryz.prog 98 #[timeV now, timeV ((q : Int) + L)] w (Gives (.bool true) w) := fun w => by have := before_gives now ((q : Int) + L) w; rw [decide_eq_true hc] at this; exact this
    have HBF := Lib.hid hB; clear hB
    rw [if_pos hc]
    unfold timeV at HA HBF ⊢
    go_enter Tryz.func65, Tryz.ntmps65
    go_upto_region 6 with (first | (go_at_call 43; refine H1.out.mono ?_; rintro e w2 ⟨p, rfl, hp0, hp1, hb2⟩) | go_in)
    have hS : w2.cell? ⟨w.heap.size, 0, none⟩ = some (.int .i64 now) ∧ w2.cell? ⟨w.heap.size, 1, none⟩ = some (.int .i64 0) ∧ w2.cell? ⟨p, 0, none⟩ = some (.int .i64 (q : Int)) ∧ w2.cell? ⟨p, 1, none⟩ = some (.int .i64 0) ∧ w2.cell? ⟨v, 0, none⟩ = some (.int .i64 (1000000000 * L)) ∧ w2.cell? ⟨5, 0, none⟩ = some (snt (se 5)) :=
      ⟨cell_below C.out.1 hb2, cell_below C.out.2.1 hb2, hp0, hp1, cell_below C.out.2.2.1 hb2, cell_below C.out.2.2.2 hb2⟩
    have HB2 := Lib.hid (HB.out.trans (hb2.mono HB.out.size)); clear hb2
    clear C
    go_region_held3 (fun w' => w'.cell? ⟨w.heap.size, 0, none⟩ = some (.int .i64 now) ∧ w'.cell? ⟨w.heap.size, 1, none⟩ = some (.int .i64 0) ∧ w'.cell? ⟨p, 0, none⟩ = some (.int .i64 (q : Int)) ∧ w'.cell? ⟨p, 1, none⟩ = some (.int .i64 0) ∧ w'.cell? ⟨v, 0, none⟩ = some (.int .i64 (1000000000 * L)) ∧ w'.cell? ⟨5, 0, none⟩ = some (snt (se 5))) (first | exact hS | exact hS3 | exact hS4)
      (first
        | (go_at_call 99; refine (HA.out _).mono ?_; rintro e w3 ⟨rfl, hb3⟩; have hS3 := keep6 hS ((Below.refl w2.heap.size w2).drew.trans hb3))
        | (go_at_call 98; refine (HBF.out _).mono ?_; rintro e w4 ⟨rfl, hb4⟩; have hS4 := keep6 hS3 hb4)
        | (go_at_call 97; refine (errorIfFalse_true (snt (se 5)) _).mono ?_; rintro e w5 ⟨rfl, rfl⟩))
    go_wp2
    go_ret
    have hbf : Below w.heap.size w w4 := HB2.out.trans (((Below.refl w2.heap.size w2).drew.trans hb3).trans (hb4.mono hb3.size) |>.mono HB2.out.size)
    exact ⟨rfl, hbf⟩
  · have hB : ∀ w, Calls Tryz.prog 98 #[timeV now, timeV ((q : Int) + L)] w (Gives (.bool false) w) := fun w => by have := before_gives now ((q : Int) + L) w; rw [decide_eq_false hc] at this; exact this
    have HBF := Lib.hid hB; clear hB
    rw [if_neg hc]
    unfold timeV at HA HBF ⊢
    go_enter Tryz.func65, Tryz.ntmps65
    go_upto_region 6 with (first | (go_at_call 43; refine H1.out.mono ?_; rintro e w2 ⟨p, rfl, hp0, hp1, hb2⟩) | go_in)
    have hS : w2.cell? ⟨w.heap.size, 0, none⟩ = some (.int .i64 now) ∧ w2.cell? ⟨w.heap.size, 1, none⟩ = some (.int .i64 0) ∧ w2.cell? ⟨p, 0, none⟩ = some (.int .i64 (q : Int)) ∧ w2.cell? ⟨p, 1, none⟩ = some (.int .i64 0) ∧ w2.cell? ⟨v, 0, none⟩ = some (.int .i64 (1000000000 * L)) ∧ w2.cell? ⟨5, 0, none⟩ = some (snt (se 5)) :=
      ⟨cell_below C.out.1 hb2, cell_below C.out.2.1 hb2, hp0, hp1, cell_below C.out.2.2.1 hb2, cell_below C.out.2.2.2 hb2⟩
    have HB2 := Lib.hid (HB.out.trans (hb2.mono HB.out.size)); clear hb2
    clear C
    go_region_held3 (fun w' => w'.cell? ⟨w.heap.size, 0, none⟩ = some (.int .i64 now) ∧ w'.cell? ⟨w.heap.size, 1, none⟩ = some (.int .i64 0) ∧ w'.cell? ⟨p, 0, none⟩ = some (.int .i64 (q : Int)) ∧ w'.cell? ⟨p, 1, none⟩ = some (.int .i64 0) ∧ w'.cell? ⟨v, 0, none⟩ = some (.int .i64 (1000000000 * L)) ∧ w'.cell? ⟨5, 0, none⟩ = some (snt (se 5))) (first | exact hS | exact hS3 | exact hS4)
      (first
        | (go_at_call 99; refine (HA.out _).mono ?_; rintro e w3 ⟨rfl, hb3⟩; have hS3 := keep6 hS ((Below.refl w2.heap.size w2).drew.trans hb3))
        | (go_at_call 98; refine (HBF.out _).mono ?_; rintro e w4 ⟨rfl, hb4⟩; have hS4 := keep6 hS3 hb4)
        | (go_at_call 97; refine (errorIfFalse_false 208 (.pointer (some (se 5))) _).mono ?_; rintro e w5 ⟨rfl, rfl⟩))
    go_wp2
    go_ret
    have hbf : Below w.heap.size w w4 := HB2.out.trans (((Below.refl w2.heap.size w2).drew.trans hb3).trans (hb4.mono hb3.size) |>.mono HB2.out.size)
    exact ⟨_, rfl, .plain, hbf⟩

set_option maxRecDepth 100000 in
set_option maxHeartbeats 1000000 in
theorem verNbf_none (se : Nat → Addr) (v bm : Nat) (cs : List Cl) (now : Int) (req : Bool) (w : World) (hse : Sen w se) (hm : MapAt w bm cs) (hf : findC cs NBF = none) :
    Calls Tryz.prog 66 #[.pointer (some ⟨v, 0, none⟩), .iface 47 (.map (some bm)), timeV now, .bool req] w (GivesO (if req then some (se 3) else none) w) := by
  have hb1 := below1 w (.cells #[.int .i64 now, .int .i64 0] 56)
  have H1 := Lib.hid (parseDate_none bm cs NBF _ (hm.below hb1) hf)
  have H2 := Lib.hid (errorIfRequired_yes NBF se _ (hse.below hb1) (by decide))
  have H3 := Lib.hid (errorIfRequired_no NBF (w.alloc (.cells #[.int .i64 now, .int .i64 0] 56)))
  have HB := Lib.hid hb1; clear hb1
  clear hse hm hf
  unfold timeV
  cases req
  · go_enter Tryz.func66, Tryz.ntmps66
    go_wp2_with (first | (go_at_call 43; refine H1.out.mono ?_; rintro e w' ⟨rfl, rfl⟩) | (go_at_call 96; refine H3.out.mono ?_; rintro e w' ⟨rfl, rfl⟩) | go_in)
    go_ret
    exact ⟨rfl, HB.out⟩
  · go_enter Tryz.func66, Tryz.ntmps66
    go_wp2_with (first | (go_at_call 43; refine H1.out.mono ?_; rintro e w' ⟨rfl, rfl⟩) | (go_at_call 96; refine H2.out.mono ?_; rintro e w' ⟨v, rfl, hv, hb⟩; obtain ⟨T, y, rfl⟩ := hv.form) | go_in)
    go_ret
    exact ⟨_, rfl, hv.mono HB.out.size, HB.out.trans (hb.mono HB.out.size)⟩

set_option maxRecDepth 100000 in
set_option maxHeartbeats 2000000 in
theorem verNbf_yes (se : Nat → Addr) (v bm : Nat) (cs : List Cl) (now L : Int) (req : Bool) (w : World) (c : Cl) (q : Nat) (hse : Sen w se) (hm : MapAt w bm cs) (hf : findC cs NBF = some c) (hk : c.v.k = 2) (hn : c.v.n = (q : Int)) (h0 : 1 ≤ q) (h1 : q ≤ 1099511627776)
    (hL : 0 ≤ L ∧ L ≤ 1000000) (hlee : w.cell? ⟨v, 0, none⟩ = some (.int .i64 (1000000000 * L))) :
    Calls Tryz.prog 66 #[.pointer (some ⟨v, 0, none⟩), .iface 47 (.map (some bm)), timeV now, .bool req] w (GivesO (if now < ((q : Int) + (-L)) then some (se 9) else none) w) := by
  have hb1 := below1 w (.cells #[.int .i64 now, .int .i64 0] 56)
  have H1 := Lib.hid (parseDate_yes bm cs NBF _ c q (hm.below hb1) hf hk hn h0 h1)
  have c0 : (w.alloc (.cells #[.int .i64 now, .int .i64 0] 56)).cell? ⟨w.heap.size, 0, none⟩ = some (.int .i64 now) := by simp [go_sem]
  have c1 : (w.alloc (.cells #[.int .i64 now, .int .i64 0] 56)).cell? ⟨w.heap.size, 1, none⟩ = some (.int .i64 0) := by simp [go_sem]
  have c2 := cell_below hlee hb1
  have c3 := cell_below (hse.glob 9 (by decide)) hb1
  have HB := Lib.hid hb1; clear hb1
  have C := Lib.hid (And.intro c0 (And.intro c1 (And.intro c2 c3)))
  clear c0 c1 c2 c3 hse hm hf hlee hk hn
  have hA : ∀ w, Calls Tryz.prog 99 #[timeV (q : Int), .int .i64 (IntKind.i64.wrap (-(1000000000 * L)))] w (Gives (timeV ((q : Int) + (-L))) w) := fun w => by rw [show IntKind.i64.wrap (-(1000000000 * L)) = 1000000000 * (-L) by go_arith]; exact add_gives (q : Int) (-L) w (by omega) (by omega) (by omega) (by omega)
  have HA := Lib.hid hA; clear hA
  by_cases hc : now < ((q : Int) + (-L))
  · have hB : ∀ w, Calls Tryz.prog 98 #[timeV now, timeV ((q : Int) + (-L))] w (Gives (.bool true) w) := fun w => by have := before_gives now ((q : Int) + (-L)) w; rw [decide_eq_true hc] at this; exact this
    have HBF := Lib.hid hB; clear hB
    rw [if_pos hc]
    unfold timeV at HA HBF ⊢
    go_enter Tryz.func66, Tryz.ntmps66
    go_upto_region 6 with (first | (go_at_call 43; refine H1.out.mono ?_; rintro e w2 ⟨p, rfl, hp0, hp1, hb2⟩) | go_in)
    have hS : w2.cell? ⟨w.heap.size, 0, none⟩ = some (.int .i64 now) ∧ w2.cell? ⟨w.heap.size, 1, none⟩ = some (.int .i64 0) ∧ w2.cell? ⟨p, 0, none⟩ = some (.int .i64 (q : Int)) ∧ w2.cell? ⟨p, 1, none⟩ = some (.int .i64 0) ∧ w2.cell? ⟨v, 0, none⟩ = some (.int .i64 (1000000000 * L)) ∧ w2.cell? ⟨9, 0, none⟩ = some (snt (se 9)) :=
      ⟨cell_below C.out.1 hb2, cell_below C.out.2.1 hb2, hp0, hp1, cell_below C.out.2.2.1 hb2, cell_below C.out.2.2.2 hb2⟩
    have HB2 := Lib.hid (HB.out.trans (hb2.mono HB.out.size)); clear hb2
    clear C
    go_region_held3 (fun w' => w'.cell? ⟨w.heap.size, 0, none⟩ = some (.int .i64 now) ∧ w'.cell? ⟨w.heap.size, 1, none⟩ = some (.int .i64 0) ∧ w'.cell? ⟨p, 0, none⟩ = some (.int .i64 (q : Int)) ∧ w'.cell? ⟨p, 1, none⟩ = some (.int .i64 0) ∧ w'.cell? ⟨v, 0, none⟩ = some (.int .i64 (1000000000 * L)) ∧ w'.cell? ⟨9, 0, none⟩ = some (snt (se 9))) (first | exact hS | exact hS3 | exact hS4)
      (first
        | (go_at_call 99; refine (HA.out _).mono ?_; rintro e w3 ⟨rfl, hb3⟩; have hS3 := keep6 hS ((Below.refl w2.heap.size w2).drew.trans hb3))
        | (go_at_call 98; refine (HBF.out _).mono ?_; rintro e w4 ⟨rfl, hb4⟩; have hS4 := keep6 hS3 hb4)
        | (go_at_call 97; refine (errorIfFalse_false 208 (.pointer (some (se 9))) _).mono ?_; rintro e w5 ⟨rfl, rfl⟩))
    go_wp2
    go_ret
    have hbf : Below w.heap.size w w4 := HB2.out.trans (((Below.refl w2.heap.size w2).drew.trans hb3).trans (hb4.mono hb3.size) |>.mono HB2.out.size)
    exact ⟨_, rfl, .plain, hbf⟩
  · have hB : ∀ w, Calls Tryz.prog 98 #[timeV now, timeV ((q : Int) + (-L))] w (Gives (.bool false) w) := fun w => by have := before_gives now ((q : Int) + (-L)) w; rw [decide_eq_false hc] at this; exact this
    have HBF := Lib.hid hB; clear hB
    rw [if_neg hc]
    unfold timeV at HA HBF ⊢
    go_enter Tryz.func66, Tryz.ntmps66
    go_upto_region 6 with (first | (go_at_call 43; refine H1.out.mono ?_; rintro e w2 ⟨p, rfl, hp0, hp1, hb2⟩) | go_in)
    have hS : w2.cell? ⟨w.heap.size, 0, none⟩ = some (.int .i64 now) ∧ w2.cell? ⟨w.heap.size, 1, none⟩ = some (.int .i64 0) ∧ w2.cell? ⟨p, 0, none⟩ = some (.int .i64 (q : Int)) ∧ w2.cell? ⟨p, 1, none⟩ = some (.int .i64 0) ∧ w2.cell? ⟨v, 0, none⟩ = some (.int .i64 (1000000000 * L)) ∧ w2.cell? ⟨9, 0, none⟩ = some (snt (se 9)) :=
      ⟨cell_below C.out.1 hb2, cell_below C.out.2.1 hb2, hp0, hp1, cell_below C.out.2.2.1 hb2, cell_below C.out.2.2.2 hb2⟩
    have HB2 := Lib.hid (HB.out.trans (hb2.mono HB.out.size)); clear hb2
    clear C
    go_region_held3 (fun w' => w'.cell? ⟨w.heap.size, 0, none⟩ = some (.int .i64 now) ∧ w'.cell? ⟨w.heap.size, 1, none⟩ = some (.int .i64 0) ∧ w'.cell? ⟨p, 0, none⟩ = some (.int .i64 (q : Int)) ∧ w'.cell? ⟨p, 1, none⟩ = some (.int .i64 0) ∧ w'.cell? ⟨v, 0, none⟩ = some (.int .i64 (1000000000 * L)) ∧ w'.cell? ⟨9, 0, none⟩ = some (snt (se 9))) (first | exact hS | exact hS3 | exact hS4)
      (first
        | (go_at_call 99; refine (HA.out _).mono ?_; rintro e w3 ⟨rfl, hb3⟩; have hS3 := keep6 hS ((Below.refl w2.heap.size w2).drew.trans hb3))
        | (go_at_call 98; refine (HBF.out _).mono ?_; rintro e w4 ⟨rfl, hb4⟩; have hS4 := keep6 hS3 hb4)
        | (go_at_call 97; refine (errorIfFalse_true (snt (se 9)) _).mono ?_; rintro e w5 ⟨rfl, rfl⟩))
    go_wp2
    go_ret
    have hbf : Below w.heap.size w w4 := HB2.out.trans (((Below.refl w2.heap.size w2).drew.trans hb3).trans (hb4.mono hb3.size) |>.mono HB2.out.size)
    exact ⟨rfl, hbf⟩

set_option maxRecDepth 100000 in
set_option maxHeartbeats 1000000 in
theorem verIat_none (se : Nat → Addr) (v bm : Nat) (cs : List Cl) (now : Int) (req : Bool) (w : World) (hse : Sen w se) (hm : MapAt w bm cs) (hf : findC cs IAT = none) :
    Calls Tryz.prog 67 #[.pointer (some ⟨v, 0, none⟩), .iface 47 (.map (some bm)), timeV now, .bool req] w (GivesO (if req then some (se 3) else none) w) := by
  have hb1 := below1 w (.cells #[.int .i64 now, .int .i64 0] 56)
  have H1 := Lib.hid (parseDate_none bm cs IAT _ (hm.below hb1) hf)
  have H2 := Lib.hid (errorIfRequired_yes IAT se _ (hse.below hb1) (by decide))
  have H3 := Lib.hid (errorIfRequired_no IAT (w.alloc (.cells #[.int .i64 now, .int .i64 0] 56)))
  have HB := Lib.hid hb1; clear hb1
  clear hse hm hf
  unfold timeV
  cases req
  · go_enter Tryz.func67, Tryz.ntmps67
    go_wp2_with (first | (go_at_call 43; refine H1.out.mono ?_; rintro e w' ⟨rfl, rfl⟩) | (go_at_call 96; refine H3.out.mono ?_; rintro e w' ⟨rfl, rfl⟩) | go_in)
    go_ret
    exact ⟨rfl, HB.out⟩
  · go_enter Tryz.func67, Tryz.ntmps67
    go_wp2_with (first | (go_at_call 43; refine H1.out.mono ?_; rintro e w' ⟨rfl, rfl⟩) | (go_at_call 96; refine H2.out.mono ?_; rintro e w' ⟨v, rfl, hv, hb⟩; obtain ⟨T, y, rfl⟩ := hv.form) | go_in)
    go_ret
    exact ⟨_, rfl, hv.mono HB.out.size, HB.out.trans (hb.mono HB.out.size)⟩

set_option maxRecDepth 100000 in
set_option maxHeartbeats 2000000 in
theorem verIat_yes (se : Nat → Addr) (v bm : Nat) (cs : List Cl) (now L : Int) (req : Bool) (w : World) (c : Cl) (q : Nat) (hse : Sen w se) (hm : MapAt w bm cs) (hf : findC cs IAT = some c) (hk : c.v.k = 2) (hn : c.v.n = (q : Int)) (h0 : 1 ≤ q) (h1 : q ≤ 1099511627776)
    (hL : 0 ≤ L ∧ L ≤ 1000000) (hlee : w.cell? ⟨v, 0, none⟩ = some (.int .i64 (1000000000 * L))) :
    Calls Tryz.prog 67 #[.pointer (some ⟨v, 0, none⟩), .iface 47 (.map (some bm)), timeV now, .bool req] w (GivesO (if now < ((q : Int) + (-L)) then some (se 6) else none) w) := by
  have hb1 := below1 w (.cells #[.int .i64 now, .int .i64 0] 56)
  have H1 := Lib.hid (parseDate_yes bm cs IAT _ c q (hm.below hb1) hf hk hn h0 h1)
  have c0 : (w.alloc (.cells #[.int .i64 now, .int .i64 0] 56)).cell? ⟨w.heap.size, 0, none⟩ = some (.int .i64 now) := by simp [go_sem]
  have c1 : (w.alloc (.cells #[.int .i64 now, .int .i64 0] 56)).cell? ⟨w.heap.size, 1, none⟩ = some (.int .i64 0) := by simp [go_sem]
  have c2 := cell_below hlee hb1
  have c3 := cell_below (hse.glob 6 (by decide)) hb1
  have HB := Lib.hid hb1; clear hb1
  have C := Lib.hid (And.intro c0 (And.intro c1 (And.intro c2 c3)))
  clear c0 c1 c2 c3 hse hm hf hlee hk hn
  have hA : ∀ w, Calls Tryz.prog 99 #[timeV (q : Int), .int .i64 (IntKind.i64.wrap (-(1000000000 * L)))] w (Gives (timeV ((q : Int) + (-L))) w) := fun w => by rw [show IntKind.i64.wrap (-(1000000000 * L)) = 1000000000 * (-L) by go_arith]; exact add_gives (q : Int) (-L) w (by omega) (by omega) (by omega) (by omega)
  have HA := Lib.hid hA; clear hA
  by_cases hc : now < ((q : Int) + (-L))
  · have hB : ∀ w, Calls Tryz.prog 98 #[timeV now, timeV ((q : Int) + (-L))] w (Gives (.bool true) w) := fun w => by have := before_gives now ((q : Int) + (-L)) w; rw [decide_eq_true hc] at this; exact this
    have HBF := Lib.hid hB; clear hB
    rw [if_pos hc]
    unfold timeV at HA HBF ⊢
    go_enter Tryz.func67, Tryz.ntmps67
    go_upto_region 6 with (first | (go_at_call 43; refine H1.out.mono ?_; rintro e w2 ⟨p, rfl, hp0, hp1, hb2⟩) | go_in)
    have hS : w2.cell? ⟨w.heap.size, 0, none⟩ = some (.int .i64 now) ∧ w2.cell? ⟨w.heap.size, 1, none⟩ = some (.int .i64 0) ∧ w2.cell? ⟨p, 0, none⟩ = some (.int .i64 (q : Int)) ∧ w2.cell? ⟨p, 1, none⟩ = some (.int .i64 0) ∧ w2.cell? ⟨v, 0, none⟩ = some (.int .i64 (1000000000 * L)) ∧ w2.cell? ⟨6, 0, none⟩ = some (snt (se 6)) :=
      ⟨cell_below C.out.1 hb2, cell_below C.out.2.1 hb2, hp0, hp1, cell_below C.out.2.2.1 hb2, cell_below C.out.2.2.2 hb2⟩
    have HB2 := Lib.hid (HB.out.trans (hb2.mono HB.out.size)); clear hb2
    clear C
    go_region_held3 (fun w' => w'.cell? ⟨w.heap.size, 0, none⟩ = some (.int .i64 now) ∧ w'.cell? ⟨w.heap.size, 1, none⟩ = some (.int .i64 0) ∧ w'.cell? ⟨p, 0, none⟩ = some (.int .i64 (q : Int)) ∧ w'.cell? ⟨p, 1, none⟩ = some (.int .i64 0) ∧ w'.cell? ⟨v, 0, none⟩ = some (.int .i64 (1000000000 * L)) ∧ w'.cell? ⟨6, 0, none⟩ = some (snt (se 6))) (first | exact hS | exact hS3 | exact hS4)
      (first
        | (go_at_call 99; refine (HA.out _).mono ?_; rintro e w3 ⟨rfl, hb3⟩; have hS3 := keep6 hS ((Below.refl w2.heap.size w2).drew.trans hb3))
        | (go_at_call 98; refine (HBF.out _).mono ?_; rintro e w4 ⟨rfl, hb4⟩; have hS4 := keep6 hS3 hb4)
        | (go_at_call 97; refine (errorIfFalse_false 208 (.pointer (some (se 6))) _).mono ?_; rintro e w5 ⟨rfl, rfl⟩))
    go_wp2
    go_ret
    have hbf : Below w.heap.size w w4 := HB2.out.trans (((Below.refl w2.heap.size w2).drew.trans hb3).trans (hb4.mono hb3.size) |>.mono HB2.out.size)
    exact ⟨_, rfl, .plain, hbf⟩
  · have hB : ∀ w, Calls Tryz.prog 98 #[timeV now, timeV ((q : Int) + (-L))] w (Gives (.bool false) w) := fun w => by have := before_gives now ((q : Int) + (-L)) w; rw [decide_eq_false hc] at this; exact this
    have HBF := Lib.hid hB; clear hB
    rw [if_neg hc]
    unfold timeV at HA HBF ⊢
    go_enter Tryz.func67, Tryz.ntmps67
    go_upto_region 6 with (first | (go_at_call 43; refine H1.out.mono ?_; rintro e w2 ⟨p, rfl, hp0, hp1, hb2⟩) | go_in)
    have hS : w2.cell? ⟨w.heap.size, 0, none⟩ = some (.int .i64 now) ∧ w2.cell? ⟨w.heap.size, 1, none⟩ = some (.int .i64 0) ∧ w2.cell? ⟨p, 0, none⟩ = some (.int .i64 (q : Int)) ∧ w2.cell? ⟨p, 1, none⟩ = some (.int .i64 0) ∧ w2.cell? ⟨v, 0, none⟩ = some (.int .i64 (1000000000 * L)) ∧ w2.cell? ⟨6, 0, none⟩ = some (snt (se 6)) :=
      ⟨cell_below C.out.1 hb2, cell_below C.out.2.1 hb2, hp0, hp1, cell_below C.out.2.2.1 hb2, cell_below C.out.2.2.2 hb2⟩
    have HB2 := Lib.hid (HB.out.trans (hb2.mono HB.out.size)); clear hb2
    clear C
    go_region_held3 (fun w' => w'.cell? ⟨w.heap.size, 0, none⟩ = some (.int .i64 now) ∧ w'.cell? ⟨w.heap.size, 1, none⟩ = some (.int .i64 0) ∧ w'.cell? ⟨p, 0, none⟩ = some (.int .i64 (q : Int)) ∧ w'.cell? ⟨p, 1, none⟩ = some (.int .i64 0) ∧ w'.cell? ⟨v, 0, none⟩ = some (.int .i64 (1000000000 * L)) ∧ w'.cell? ⟨6, 0, none⟩ = some (snt (se 6))) (first | exact hS | exact hS3 | exact hS4)
      (first
        | (go_at_call 99; refine (HA.out _).mono ?_; rintro e w3 ⟨rfl, hb3⟩; have hS3 := keep6 hS ((Below.refl w2.heap.size w2).drew.trans hb3))
        | (go_at_call 98; refine (HBF.out _).mono ?_; rintro e w4 ⟨rfl, hb4⟩; have hS4 := keep6 hS3 hb4)
        | (go_at_call 97; refine (errorIfFalse_true (snt (se 6)) _).mono ?_; rintro e w5 ⟨rfl, rfl⟩))
    go_wp2
    go_ret
    have hbf : Below w.heap.size w w4 := HB2.out.trans (((Below.refl w2.heap.size w2).drew.trans hb3).trans (hb4.mono hb3.size) |>.mono HB2.out.size)
    exact ⟨rfl, hbf⟩

end Go.Proofs.YtgaaehpmbkjhlaaGreatDoor
