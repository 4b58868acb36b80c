/- A date out of a float64: math.Modf of a whole number, newNumericDateFromSeconds. -/
import Derived.Test.YtgaaehpmbkjhlaaGreatDoorWOf
import Derived.Test.YtgaaehpmbkjhlaaGreatDoorFl
import Derived.Stop.Asserts
namespace Go.Proofs.YtgaaehpmbkjhlaaGreatDoor
open Go Go.RowKit

theorem and_sign (b : Nat) (hb : b < 9223372036854775808) : bits .and .u64 (b : Int) 9223372036854775808 = 0 := by
  rw [u64_and (b : Int) 9223372036854775808 (by omega) (by omega) (by omega) (by omega)]
  have h1 : ((b : Int)).toNat = b := by omega
  have h2 : ((9223372036854775808 : Int)).toNat = 2 ^ 63 := by decide
  rw [h1, h2]
  have : b &&& 2 ^ 63 = 0 := by
    have h3 : b.testBit 63 = false := Nat.testBit_lt_two_pow hb
    apply Nat.eq_of_testBit_eq
    intro i
    rw [Nat.testBit_and, Nat.testBit_two_pow, Nat.zero_testBit]
    by_cases hi : 63 = i
    · subst hi; rw [h3]; rfl
    · simp [hi]
  rw [this]; rfl
theorem andNot_zero : bits .andNot .u64 0 9223372036854775808 = 0 := by decide
theorem or_zero : bits .or .u64 0 0 = 0 := by decide

theorem copysign_zero (b : Nat) (hb : b < 9223372036854775808) (w : World) : Calls Tryz.prog 107 #[.float .f64 0, .float .f64 b] w fun e w' => e = .returned (.float .f64 0) ∧ w = w' := by
  have h1 := @run_callFunc_extern Tryz.prog 114 _ Extern.MathFloatBits.float64bits Tryz.func114 (by kernel_rfl) (by kernel_rfl) (by kernel_rfl) (by kernel_rfl)
  have h2 := @run_callFunc_extern Tryz.prog 113 _ Extern.MathFloatBits.float64frombits Tryz.func113 (by kernel_rfl) (by kernel_rfl) (by kernel_rfl) (by kernel_rfl)
  have k1 : ∀ (b : Nat) (w : World), (Extern.MathFloatBits.float64bits #[.float .f64 b]).run Tryz.prog w = .ok (.int .u64 (b : Int)) w := fun _ _ => rfl
  have k2 : ∀ (w : World), (Extern.MathFloatBits.float64frombits #[.int .u64 0]).run Tryz.prog w = .ok (.float .f64 0) w := fun _ => rfl
  have a1 := and_sign b hb
  have a2 := andNot_zero
  have a3 := or_zero
  clear hb
  go_enter Tryz.func107, Tryz.ntmps107
  go_wp2
  go_ret
  exact ⟨rfl, rfl⟩

/-- The bits of a whole number's float64, as the walks want them. -/
structure Whole (b : Nat) (n : Nat) : Prop where
  lt : b < 9223372036854775808
  trunc : ∀ w : World, (Extern.MathFloor.toIntegral "math.archTrunc" .zero #[.float .f64 b]).run Tryz.prog w = .ok (.float .f64 b) w
  sub : floatBits .sub .f64 b b = some 0
  int : floatToIntVal .f64 b .i64 = some (n : Int)
  cmp : (FloatKind.f64.format.order b 0 == some .eq) = false

theorem toIntegral_number (b : Nat) {s : Bool} {m : Nat} {e : Int} (hd : FloatKind.f64.decode b = .number s m e) :
    Extern.MathFloor.toIntegral "math.archTrunc" .zero #[.float .f64 b] = pure (.float .f64 (FloatKind.f64.encode ((Ieee.Datum.number s m e).integral .zero))) := by
  conv => lhs; whnf
  rw [hd]

theorem whole_fb {n : Nat} (h0 : 1 ≤ n) (h : n ≤ 1099511627776) : Whole (floatOfInt .f64 (n : Int)) n := by
  refine ⟨(Fl.fb_lt h0 h).1, fun w => ?_, Fl.sub_fb h0 h, Fl.toInt_fb h0 h, Fl.order_fb h0 h⟩
  have ht := Fl.trunc_fb h0 h
  have hd := Fl.decode_fb h0 h
  unfold Fl.fb at ht hd
  rw [hd] at ht
  rw [toIntegral_number _ hd, ht]
  rfl

theorem modf_whole (b n : Nat) (h : Whole b n) (w : World) : Calls Tryz.prog 103 #[.float .f64 b] w fun e w' => e = .returned (.tuple #[.float .f64 b, .float .f64 0]) ∧ w = w' := by
  have h1 := @run_callFunc_extern Tryz.prog 111 _ (Extern.MathFloor.toIntegral "math.archTrunc" .zero) Tryz.func111 (by kernel_rfl) (by kernel_rfl) (by kernel_rfl) (by kernel_rfl)
  have k1 := h.trunc
  have k2 := fun w => run_float_arith (P := Tryz.prog) w .sub 121 .f64 b b 0 h.sub
  have hc := copysign_zero b h.lt w
  have HC := Lib.hid hc; clear hc
  clear h
  go_enter Tryz.func103, Tryz.ntmps103
  go_wp2_with (first | (go_at_call 107; refine HC.out.mono ?_; rintro e w' ⟨rfl, rfl⟩) | go_in)
  go_ret2
  exact ⟨rfl, rfl⟩

/-- A new date: seconds, no nanoseconds. -/
def GivesDate (n : Nat) (w : World) (e : Ending) (w' : World) : Prop :=
  ∃ p, e = .returned (.pointer (some ⟨p, 0, none⟩)) ∧ w'.cell? ⟨p, 0, none⟩ = some (.int .i64 (n : Int)) ∧ w'.cell? ⟨p, 1, none⟩ = some (.int .i64 0) ∧ Below w.heap.size w w'

set_option maxHeartbeats 400000 in
theorem newDate (b n : Nat) (h : Whole b n) (hn : n ≤ 1099511627776) (w : World) : Calls Tryz.prog 78 #[.float .f64 b] w (GivesDate n w) := by
  have k1 := fun w => run_convert_float_int (P := Tryz.prog) w 121 2 .f64 .i64 b n (by rw [Tryz.underlying121]; rfl) Tryz.underlying2 h.int
  have k2 := fun w => run_convert_float_int (P := Tryz.prog) w 121 2 .f64 .i64 0 0 (by rw [Tryz.underlying121]; rfl) Tryz.underlying2 Fl.toInt_zero
  have k3 := fun w => run_float_arith (P := Tryz.prog) w .mul 121 .f64 0 4741671816366391296 0 (by decide)
  have hc := modf_whole b n h w
  have HC := Lib.hid hc; clear hc
  clear h
  go_enter Tryz.func78, Tryz.ntmps78
  go_wp2_with (first | (go_at_call 103; refine HC.out.mono ?_; rintro e w' ⟨rfl, rfl⟩) | go_in)
  go_ret
  refine ⟨w.heap.size + 4, rfl, by simp [go_sem], by simp [go_sem], by go_grown⟩

theorem ta121_121 (v : Value) (w : World) : (Instr.typeAssert (.iface 121 v) 20 121 true).run Tryz.prog w = .ok (.tuple #[v, .bool true]) w := by kernel_rfl
theorem ta9_121 (v : Value) (w : World) : (Instr.typeAssert (.iface 9 v) 20 121 true).run Tryz.prog w = .ok (.tuple #[.float .f64 0, .bool false]) w := by kernel_rfl
theorem ta9_122 (v : Value) (w : World) : (Instr.typeAssert (.iface 9 v) 20 122 true).run Tryz.prog w = .ok (.tuple #[.string ByteArray.empty, .bool false]) w := by kernel_rfl
theorem ta9_9 (v : Value) (w : World) : (Instr.typeAssert (.iface 9 v) 20 9 true).run Tryz.prog w = .ok (.tuple #[v, .bool true]) w := by kernel_rfl
theorem ta121_9 (v : Value) (w : World) : (Instr.typeAssert (.iface 121 v) 20 9 true).run Tryz.prog w = .ok (.tuple #[.string ByteArray.empty, .bool false]) w := by kernel_rfl
theorem ta4_9 (v : Value) (w : World) : (Instr.typeAssert (.iface 4 v) 20 9 true).run Tryz.prog w = .ok (.tuple #[.string ByteArray.empty, .bool false]) w := by kernel_rfl
theorem ta123_9 (v : Value) (w : World) : (Instr.typeAssert (.iface 123 v) 20 9 true).run Tryz.prog w = .ok (.tuple #[.string ByteArray.empty, .bool false]) w := by kernel_rfl
theorem ta123_24 (v : Value) (w : World) : (Instr.typeAssert (.iface 123 v) 20 24 true).run Tryz.prog w = .ok (.tuple #[.slice none 0 0, .bool false]) w := by kernel_rfl
theorem ta123_123 (v : Value) (w : World) : (Instr.typeAssert (.iface 123 v) 20 123 true).run Tryz.prog w = .ok (.tuple #[v, .bool true]) w := by kernel_rfl
theorem taNil_9 (w : World) : (Instr.typeAssert .nilIface 20 9 true).run Tryz.prog w = .ok (.tuple #[.string ByteArray.empty, .bool false]) w := by kernel_rfl
theorem taNil_24 (w : World) : (Instr.typeAssert .nilIface 20 24 true).run Tryz.prog w = .ok (.tuple #[.slice none 0 0, .bool false]) w := by kernel_rfl
theorem taNil_123 (w : World) : (Instr.typeAssert .nilIface 20 123 true).run Tryz.prog w = .ok (.tuple #[.slice none 0 0, .bool false]) w := by kernel_rfl

/-- A date that is there: its seconds; the error is nil. -/
def GivesDateOk (n : Nat) (w : World) (e : Ending) (w' : World) : Prop :=
  ∃ p, e = .returned (.tuple #[.pointer (some ⟨p, 0, none⟩), .nilIface]) ∧ w'.cell? ⟨p, 0, none⟩ = some (.int .i64 (n : Int)) ∧ w'.cell? ⟨p, 1, none⟩ = some (.int .i64 0) ∧ Below w.heap.size w w'

theorem parseDate_none (bm : Nat) (cs : List Cl) (s : ByteArray) (w : World) (hm : MapAt w bm cs) (hf : findC cs s = none) :
    Calls Tryz.prog 43 #[.map (some bm), .string s] w fun e w' => e = .returned (.tuple #[.pointer none, .nilIface]) ∧ w = w' := by
  have hl := run_lookup_no hm s hf
  clear hm hf
  go_enter Tryz.func43, Tryz.ntmps43
  go_wp2
  go_ret2
  exact ⟨rfl, rfl⟩

set_option maxRecDepth 100000 in
set_option maxHeartbeats 400000 in
theorem parseDate_yes (bm : Nat) (cs : List Cl) (s : ByteArray) (w : World) (c : Cl) (n : Nat) (hm : MapAt w bm cs) (hf : findC cs s = some c) (hk : c.v.k = 2) (hn : c.v.n = (n : Int)) (h0 : 1 ≤ n) (h1 : n ≤ 1099511627776) :
    Calls Tryz.prog 43 #[.map (some bm), .string s] w (GivesDateOk n w) := by
  obtain ⟨u, hu, hl⟩ := run_lookup_yes hm s hf
  have hw := whole_fb h0 h1
  have hu' : u = .iface 121 (.float .f64 (floatOfInt .f64 (n : Int))) := by
    rcases hu with ⟨h4, _⟩ | ⟨_, h⟩
    · rw [hk] at h4; exact absurd h4 (by decide)
    · rw [h]; unfold anyLeaf
      rw [if_neg (by rw [hk]; decide), if_pos hk, hn]
  rw [hu'] at hl
  clear hu hu' hm hf hk hn
  generalize floatOfInt .f64 (n : Int) = b at hl hw
  have hcmp := hw.cmp
  have hta := ta121_121
  have HW := Lib.hid hw; clear hw
  go_enter Tryz.func43, Tryz.ntmps43
  go_wp2_with (go_at_call 78; refine (newDate b n HW.out h1 w).mono ?_; rintro e w' ⟨p, rfl, hp0, hp1, hb⟩)
  go_ret2
  exact ⟨p, rfl, hp0, hp1, hb⟩
end Go.Proofs.YtgaaehpmbkjhlaaGreatDoor
