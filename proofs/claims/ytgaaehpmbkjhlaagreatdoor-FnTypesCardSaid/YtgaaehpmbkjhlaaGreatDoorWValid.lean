/- (*Validator).Validate: what the checks leave, gathered. -/
import Derived.Test.YtgaaehpmbkjhlaaGreatDoorWErrs
import Derived.Test.YtgaaehpmbkjhlaaGreatDoorWParser
import Derived.Test.YtgaaehpmbkjhlaaGreatDoorVPlain
import Derived.Deep.CutRange
namespace Go.Proofs.YtgaaehpmbkjhlaaGreatDoor
open Go Go.RowKit
attribute [local go_sem ↓] Go.wp_at_zero Go.wp_at_succ

theorem Tryz.noValidate47 (v : Value) (xT : TypeId) (w : World) : (Instr.typeAssert (.iface 47 v) xT 114 true).run Tryz.prog w = .ok (.tuple #[.nilIface, .bool false]) w := run_typeAssert_lacksB Tryz.underlying114 (by kernel_rfl) (by kernel_rfl) v xT w

theorem Tryz.neFunc (f : Fn) (fa fc : Array Value) (w : World) : (binOp .neq 98 (.func f fa fc) .nilFunc).run Tryz.prog w = .ok (.bool true) w := by kernel_rfl

/-- What the six checks leave, wherever they are called. -/
structure Checks (se : Nat → Addr) (s : St) (cs : List Cl) (r1 r2 r3 r4 r5 r6 : Option Nat) : Prop where
  exp : ∀ v bm w, Sen w se → MapAt w bm cs → w.cell? ⟨v, 0, none⟩ = some (.int .i64 s.leeway) → Calls Tryz.prog 65 #[.pointer (some ⟨v, 0, none⟩), .iface 47 (.map (some bm)), timeV s.now, .bool s.nexp] w (GivesO (r1.map se) w)
  nbf : ∀ v bm w, Sen w se → MapAt w bm cs → w.cell? ⟨v, 0, none⟩ = some (.int .i64 s.leeway) → Calls Tryz.prog 66 #[.pointer (some ⟨v, 0, none⟩), .iface 47 (.map (some bm)), timeV s.now, .bool s.nnbf] w (GivesO (r2.map se) w)
  iat : s.iat = true → ∀ v bm w, Sen w se → MapAt w bm cs → w.cell? ⟨v, 0, none⟩ = some (.int .i64 s.leeway) → Calls Tryz.prog 67 #[.pointer (some ⟨v, 0, none⟩), .iface 47 (.map (some bm)), timeV s.now, .bool false] w (GivesO (r3.map se) w)
  iat0 : s.iat = false → r3 = none
  aud : s.al ≠ 0 → ∀ v bm w wa wc, Sen w se → MapAt w bm cs → StrsAt w wa s.al s.auds → w.cell? ⟨v, 5, none⟩ = some (.slice wa s.al wc) → Calls Tryz.prog 68 #[.pointer (some ⟨v, 0, none⟩), .iface 47 (.map (some bm)), .slice wa s.al wc, .bool s.all] w (GivesO (r4.map se) w)
  aud0 : s.al = 0 → r4 = none
  iss : (s.iss.toList == []) = false → ∀ v bm w, Sen w se → MapAt w bm cs → Calls Tryz.prog 69 #[.pointer (some ⟨v, 0, none⟩), .iface 47 (.map (some bm)), .string s.iss, .bool true] w (GivesO (r5.map se) w)
  iss0 : (s.iss.toList == []) = true → r5 = none
  sub : (s.sub.toList == []) = false → ∀ v bm w, Sen w se → MapAt w bm cs → Calls Tryz.prog 70 #[.pointer (some ⟨v, 0, none⟩), .iface 47 (.map (some bm)), .string s.sub, .bool true] w (GivesO (r6.map se) w)
  sub0 : (s.sub.toList == []) = true → r6 = none

/-- A check's result, in blocks other than o. -/
def ErrVF (w : World) (se : Nat → Addr) (r : Option Nat) (o : Option Nat) (v : Value) : Prop := match r with
  | none => v = .nilIface
  | some k => ErrF w (se k) o v

theorem givesO_v {se : Nat → Addr} {r : Option Nat} {w w' : World} {e : Ending} (h : GivesO (r.map se) w e w') : ∃ v, e = .returned v ∧ (∀ o, (∀ g, o = some g → g < w.heap.size) → ErrVF w' se r o v) ∧ Below w.heap.size w w' := by
  cases r with
  | none => exact ⟨_, h.1, fun o _ => rfl, h.2⟩
  | some k => obtain ⟨v, h1, h2, h3⟩ := h; exact ⟨v, h1, fun o ho => h2.far ho, h3⟩
theorem ErrF.form {w : World} {a : Addr} {o : Option Nat} {v : Value} (h : ErrF w a o v) : ∃ T y, v = .iface T y := by
  cases h with
  | plain => exact ⟨_, _, rfl⟩
  | wrapped b c h1 h2 n1 n2 => exact ⟨_, _, rfl⟩
theorem ErrVF.drew {w : World} {se : Nat → Addr} {r : Option Nat} {o : Option Nat} {v : Value} (h : ErrVF w se r o v) : ErrVF w.drew se r o v := by
  cases r with
  | none => exact h
  | some k => exact ErrF.below h ((Below.refl _ _).drew)
theorem neIface_nil (T : TypeId) (y : Value) (w : World) : (binOp .neq 51 (.iface T y) .nilIface).run Tryz.prog w = .ok (.bool true) w := by
  simp only [binOp]
  have h : ∀ d : Nat, (Op.equalIn (d + 1) 51 (.iface T y) .nilIface).run Tryz.prog w = .ok false w := fun d => by simp [Op.equalIn, run_underlying Tryz.underlying51]
  simp [Op.equal, Op.maxDepth, h 9999]
theorem guard_nil (x : Operand) (v : Value) (w : World) : (eqGuard .neq 51 x (.const .nilIface) v .nilIface).run Tryz.prog w = .ok () w := by
  cases v <;> (first | rfl | (cases x <;> rfl))
theorem neNil_nil (w : World) : (binOp .neq 51 .nilIface .nilIface).run Tryz.prog w = .ok (.bool false) w := by kernel_rfl
theorem ErrVF.run {w : World} {se : Nat → Addr} {r : Option Nat} {o : Option Nat} {v : Value} (h : ErrVF w se r o v) (w' : World) : (binOp .neq 51 v .nilIface).run Tryz.prog w' = .ok (.bool r.isSome) w' := by
  cases r with
  | none =>
    obtain rfl : v = .nilIface := h
    exact neNil_nil w'
  | some k =>
    obtain ⟨T, y, rfl⟩ := ErrF.form h
    exact neIface_nil T y w'

/-- The errors gathered so far; what lay below B is as it was in W. -/
def VR (B : Nat) (W : World) (se : Nat → Addr) (ks : List Nat) (s : Value) (wx : World) : Prop := ErrsOwn wx B se s ks ∧ Below B W wx
theorem VR.below {B : Nat} {W wx wy : World} {se : Nat → Addr} {ks : List Nat} {s : Value} (h : VR B W se ks s wx) (hB : B ≤ wx.heap.size) (hb : Below wx.heap.size wx wy) : VR B W se ks s wy :=
  ⟨h.1.below hb, h.2.trans (hb.mono hB)⟩
theorem VR.size {B : Nat} {W wx : World} {se : Nat → Addr} {ks : List Nat} {s : Value} (h : VR B W se ks s wx) (hB : B ≤ W.heap.size) : B ≤ wx.heap.size := Nat.le_trans hB h.2.size
theorem VR.own_lt {B : Nat} {W wx : World} {se : Nat → Addr} {ks : List Nat} {s : Value} (h : VR B W se ks s wx) : ∀ g, s.ownBlock = some g → g < wx.heap.size := by
  obtain ⟨⟨vs, h1, _⟩, _⟩ := h
  exact fun g hg => (h1.lt g hg).2

theorem nil_beq {l : List UInt8} (h : (!l.isEmpty) = false) : (l == []) = true := by cases l <;> simp_all
theorem cons_beq {l : List UInt8} (h : (!l.isEmpty) = true) : (l == []) = false := by cases l <;> simp_all
theorem oL_len (r : Option Nat) : (oL r).length ≤ 1 := by cases r <;> simp [oL]

theorem VR.zero {B : Nat} {W wx : World} {se : Nat → Addr} {ks : List Nat} {s : Value} (h : VR B W se ks s wx) : VR B W se (ks ++ oL none) s wx := by simpa [oL] using h
theorem VR.add {B : Nat} {W wx w3 : World} {se : Nat → Addr} {ks : List Nat} {s : Value} {vs : List Value} {k g cap : Nat} {v : Value} (h1 : wx.ownsRow B 51 1 s vs.length vs) (h2 : vs.length = ks.length)
    (h3 : ∀ i (h : i < ks.length) (h' : i < vs.length), ErrF wx (se ks[i]) s.ownBlock vs[i]) (hb : Below B W wx) (hB : B ≤ wx.heap.size) (hv : ErrF wx (se k) s.ownBlock v)
    (hown : w3.ownsRow B 51 1 (.slice (some ⟨g, 0, none⟩) (vs.length + 1) cap) (vs.length + 1) (vs ++ [v])) (hg : (wx.alloc (.cells #[v] 51)).grownBy w3 s.ownBlock) (hat : s.ownBlock = some g ∨ g = wx.heap.size + 1) :
    VR B W se (ks ++ oL (some k)) (.slice (some ⟨g, 0, none⟩) (vs.length + 1) cap) w3 := by
  have hbl := below1 wx (.cells #[v] 51)
  refine ⟨ErrsOwn.add h2 (fun i h h' => (h3 i h h').below hbl) (hv.below hbl) hown hg (by simpa using hat), ?_⟩
  exact (hb.alloc hB _).grown hg (by simp; omega) (fun g hg => (h1.lt g hg).1)

/-- What Validate gives: nil, or the joined errors. -/
def GivesV (se : Nat → Addr) (ks : List Nat) (w : World) (e : Ending) (w' : World) : Prop :=
  (ks = [] ∧ e = .returned .nilIface ∧ Below w.heap.size w w') ∨
  (ks ≠ [] ∧ ∃ b g c, e = .returned (.iface 138 (.pointer (some ⟨b, 0, none⟩))) ∧ w'.cell? ⟨b, 0, none⟩ = some (.slice (some ⟨g, 0, none⟩) ks.length c) ∧ (∀ i (h : i < ks.length), ∃ v, w'.cell? ⟨g, i, none⟩ = some v ∧ ErrAt w' (se ks[i]) 0 v) ∧ Below w.heap.size w w')

/-- The row of the errors, as it is joined. -/
theorem errs_row {w : World} {B : Nat} {se : Nat → Addr} {sl : Value} {ks : List Nat} (h : ErrsOwn w B se sl ks) :
    (ks = [] ∧ ∃ a c, sl = .slice a 0 c) ∨ (ks ≠ [] ∧ ∃ g c, sl = .slice (some ⟨g, 0, none⟩) ks.length c ∧ ∀ i (h : i < ks.length), ∃ v, w.cell? ⟨g, i, none⟩ = some v ∧ ErrAt w (se ks[i]) 0 v) := by
  obtain ⟨vs, h1, h2, h3⟩ := h
  by_cases h0 : ks = []
  · refine .inl ⟨h0, ?_⟩
    have : vs.length = 0 := by rw [h2, h0]; rfl
    rw [this] at h1
    rcases h1.2 with ⟨rfl, _⟩ | ⟨g, cap, cur, rfl, _⟩
    · exact ⟨_, _, rfl⟩
    · exact ⟨_, _, rfl⟩
  · refine .inr ⟨h0, ?_⟩
    have hpos : 0 < vs.length := by rw [h2]; exact List.length_pos_iff.2 h0
    obtain ⟨g, cap, rfl, _, _⟩ := h1.form hpos
    refine ⟨g, cap, by rw [h2], fun i hi => ?_⟩
    have hi' : i < vs.length := by omega
    have := h1.cells (g := g) rfl i vs[i] (by simp [hi'])
    rw [Addr.add_mid] at this
    exact ⟨vs[i], by simpa using this, (h3 i hi hi').at⟩

set_option maxRecDepth 100000 in
set_option maxHeartbeats 8000000 in
theorem validate_gives (se : Nat → Addr) (s : St) (cs : List Cl) (r1 r2 r3 r4 r5 r6 : Option Nat) (hch : Checks se s cs r1 r2 r3 r4 r5 r6) (v bm bs : Nat) (wa : Option Addr) (wc0 : Nat) (w : World) (hse : Sen w se) (hm : MapAt w bm cs)
    (hnow : -9000000000000000 ≤ s.now ∧ s.now ≤ 9000000000000000) (hbs : w.cell? ⟨bs, 0, none⟩ = some (.int .i64 s.now)) (hstr : s.al ≠ 0 → StrsAt w wa s.al s.auds) (hal : s.al ≤ 9223372036854775807)
    (d0 : w.cell? ⟨v, 0, none⟩ = some (.int .i64 s.leeway)) (d1 : w.cell? ⟨v, 1, none⟩ = some (tfOf bs)) (d2 : w.cell? ⟨v, 2, none⟩ = some (.bool s.nexp)) (d3 : w.cell? ⟨v, 3, none⟩ = some (.bool s.nnbf)) (d4 : w.cell? ⟨v, 4, none⟩ = some (.bool s.iat))
    (d5 : w.cell? ⟨v, 5, none⟩ = some (.slice wa s.al wc0)) (d6 : s.al ≠ 0 → w.cell? ⟨v, 6, none⟩ = some (.bool s.all)) (d7 : w.cell? ⟨v, 7, none⟩ = some (.string s.iss)) (d8 : w.cell? ⟨v, 8, none⟩ = some (.string s.sub)) :
    Calls Tryz.prog 35 #[.pointer (some ⟨v, 0, none⟩), .iface 47 (.map (some bm))] w (GivesV se (((((([] ++ oL r1) ++ oL r2) ++ oL r3) ++ oL r4) ++ oL r5) ++ oL r6) w) := by
  unfold tfOf at d1
  obtain ⟨i0, hi, hz0, hz1, hz2⟩ := info_parts Tryz.info51
  have hlv := World.block_lt_of_cell? w _ d1
  have hlb := World.block_lt_of_cell? w _ hbs
  simp only at hlv hlb
  have hmk : ∀ w : World, (Instr.makeSlice 87 (.int .i64 0) (.int .i64 6)).run Tryz.prog w = .ok (.slice (some ⟨w.heap.size, 0, none⟩) 0 6) (w.alloc (.cells #[.nilIface, .nilIface, .nilIface, .nilIface, .nilIface, .nilIface] 51)) := fun _ => by kernel_rfl
  have hta := Tryz.noValidate47
  have hfn := Tryz.neFunc
  obtain ⟨KS, hKS⟩ : ∃ KS, KS = (((((([] ++ oL r1) ++ oL r2) ++ oL r3) ++ oL r4) ++ oL r5) ++ oL r6) := ⟨_, rfl⟩
  rw [← hKS]
  have HKS := Lib.hid hKS; clear hKS
  have HSE := Lib.hid hse; clear hse
  have HM := Lib.hid hm; clear hm
  have HCH := Lib.hid hch; clear hch
  have HSTR := Lib.hid hstr; clear hstr
  have HD := Lib.hid (And.intro d0 (And.intro d2 (And.intro d3 (And.intro d4 (And.intro d5 (And.intro d6 (And.intro d7 d8)))))))
  clear d0 d2 d3 d4 d5 d6 d7 d8
  go_enter Tryz.func35, Tryz.ntmps35
  go_wp2_with fail
  refine (clock_gives bs s.now _ (cell_below hbs (by go_grown)) hnow.1 hnow.2).mono ?_
  rintro e w1 ⟨rfl, hb1⟩
  unfold timeV
  have hb0 : Below w.heap.size w ((w.alloc (.cells #[.int .i64 0, .int .i64 0] 56)).alloc (.cells #[.nilIface, .nilIface, .nilIface, .nilIface, .nilIface, .nilIface] 51)) := by go_grown
  have c0 : w1.cell? ⟨w.heap.size, 0, none⟩ = some (.int .i64 0) := (hb1.cell (p := ⟨w.heap.size, 0, none⟩) (by simp; omega)).trans (by simp [go_sem])
  have c1 : w1.cell? ⟨w.heap.size, 1, none⟩ = some (.int .i64 0) := (hb1.cell (p := ⟨w.heap.size, 1, none⟩) (by simp; omega)).trans (by simp [go_sem])
  have f0 : w1.frozen? ⟨w.heap.size, 0, none⟩ = false := (hb1.frozen (p := ⟨w.heap.size, 0, none⟩) (by simp; omega)).trans (by simp [go_sem])
  have f1 : w1.frozen? ⟨w.heap.size, 1, none⟩ = false := (hb1.frozen (p := ⟨w.heap.size, 1, none⟩) (by simp; omega)).trans (by simp [go_sem])
  have hs1 : (w.alloc (.cells #[.int .i64 0, .int .i64 0] 56)).heap.size = w.heap.size + 1 := by simp
  have hrow : ((w.alloc (.cells #[.int .i64 0, .int .i64 0] 56)).alloc (.cells #[.nilIface, .nilIface, .nilIface, .nilIface, .nilIface, .nilIface] 51)).ownsRow (w.heap.size + 1) 51 1 (.slice (some ⟨w.heap.size + 1, 0, none⟩) 0 6) 0 [] := by
    have := World.ownsRow_made (base := w.heap.size + 1) (e := 51) (size := 1) (w.alloc (.cells #[.int .i64 0, .int .i64 0] 56)) #[.nilIface, .nilIface, .nilIface, .nilIface, .nilIface, .nilIface] 6 (by simp) (by decide) rfl
    rwa [hs1] at this
  have hrow1 := owns_below hrow hb1
  have hbw1 : Below w.heap.size w w1 := hb0.trans (hb1.mono hb0.size)
  have hz1 : w.heap.size + 1 + 1 ≤ w1.heap.size := by have := hb1.size; simpa using this
  have HB1 := Lib.hid hbw1
  clear hb0 hb1 hrow hs1 hbw1 hbs d1
  have k0 : ((w1.setCell ⟨w.heap.size, 0, none⟩ (.int .i64 s.now)).setCell ⟨w.heap.size, 1, none⟩ (.int .i64 0)).cell? ⟨w.heap.size, 0, none⟩ = some (.int .i64 s.now) := (World.cell?_setCell_other _ _ _ _ (by simp)).trans (World.cell?_setCell_same _ _ _ c0)
  have k1 : ((w1.setCell ⟨w.heap.size, 0, none⟩ (.int .i64 s.now)).setCell ⟨w.heap.size, 1, none⟩ (.int .i64 0)).cell? ⟨w.heap.size, 1, none⟩ = some (.int .i64 0) := World.cell?_setCell_same _ _ _ ((World.cell?_setCell_other _ _ _ _ (by simp)).trans c1)
  have kb : Below w.heap.size w ((w1.setCell ⟨w.heap.size, 0, none⟩ (.int .i64 s.now)).setCell ⟨w.heap.size, 1, none⟩ (.int .i64 0)) := (HB1.out.setCell (by simp) _).setCell (by simp) _
  have hob : (Value.slice (some ⟨w.heap.size + 1, 0, none⟩) 0 6).ownBlock ≠ some w.heap.size := by simp [Value.ownBlock]
  have kr : ErrsOwn ((w1.setCell ⟨w.heap.size, 0, none⟩ (.int .i64 s.now)).setCell ⟨w.heap.size, 1, none⟩ (.int .i64 0)) (w.heap.size + 1) se (.slice (some ⟨w.heap.size + 1, 0, none⟩) 0 6) [] :=
    ⟨[], ownsRow_setCell_other (ownsRow_setCell_other hrow1 (a := ⟨w.heap.size, 0, none⟩) hob _) (a := ⟨w.heap.size, 1, none⟩) hob _, rfl, fun i h => by simp at h⟩
  have kz : w.heap.size + 1 ≤ ((w1.setCell ⟨w.heap.size, 0, none⟩ (.int .i64 s.now)).setCell ⟨w.heap.size, 1, none⟩ (.int .i64 0)).heap.size := by simp; omega
  clear hrow1
  have KR := Lib.hid kr; clear kr
  go_upto_region 7 with fail
  clear c0 c1 f0 f1 hmk hfn
  generalize (w1.setCell ⟨w.heap.size, 0, none⟩ (.int .i64 s.now)).setCell ⟨w.heap.size, 1, none⟩ (.int .i64 0) = X at k0 k1 kb KR kz ⊢
  clear HB1 hz1
  obtain ⟨B, hB⟩ : ∃ B, B = w.heap.size + 1 := ⟨_, rfl⟩
  have hlB : w.heap.size < B := by omega
  obtain ⟨s0, hs0⟩ : ∃ s0, s0 = Value.slice (some ⟨w.heap.size + 1, 0, none⟩) 0 6 := ⟨_, rfl⟩
  rw [← hs0] at KR ⊢
  rw [← hB] at KR kz
  clear hs0 hB hob
  have HR0 : Hid (VR B X se [] s0 X) := Lib.hid ⟨KR.out, Below.refl _ _⟩
  have HKB := Lib.hid kb; clear kb KR
  go_upto_region 7 with fail
  go_cut [7] from 23 to 30 (fun s7 wx => ErrVF wx se r1 s0.ownBlock s7 ∧ VR B X se [] s0 wx)
  case first =>
    have hB := HR0.out.size kz
    have hS : X.cell? ⟨w.heap.size, 0, none⟩ = some (.int .i64 s.now) ∧ X.cell? ⟨w.heap.size, 1, none⟩ = some (.int .i64 0) ∧ X.cell? ⟨v, 2, none⟩ = some (.bool s.nexp) :=
      ⟨(HR0.out.2.cell (p := ⟨w.heap.size, 0, none⟩) hlB).trans k0, (HR0.out.2.cell (p := ⟨w.heap.size, 1, none⟩) hlB).trans k1, cell_below HD.out.2.1 (HKB.out.trans (HR0.out.2.mono (by omega)))⟩
    have hct : ∀ W, Below X.heap.size X W → Calls Tryz.prog 65 #[.pointer (some ⟨v, 0, none⟩), .iface 47 (.map (some bm)), .agg #[.int .i64 s.now, .int .i64 0], .bool s.nexp] W (GivesO (r1.map se) W) := fun W hW =>
      have hb : Below w.heap.size w W := (HKB.out.trans (HR0.out.2.mono (by omega))).trans (hW.mono (by omega))
      HCH.out.exp v bm W (HSE.out.below hb) (HM.out.below hb) (cell_below HD.out.1 hb)
    have HCT := Lib.hid hct; clear hct
    have keep : ∀ w2, Below X.heap.size X w2 → w2.cell? ⟨w.heap.size, 0, none⟩ = some (.int .i64 s.now) ∧ w2.cell? ⟨w.heap.size, 1, none⟩ = some (.int .i64 0) ∧ w2.cell? ⟨v, 2, none⟩ = some (.bool s.nexp) := fun w2 hb2 => ⟨cell_below hS.1 hb2, cell_below hS.2.1 hb2, cell_below hS.2.2 hb2⟩
    have HKEEP := Lib.hid keep; clear keep
    go_region_held3 (fun w' => w'.cell? ⟨w.heap.size, 0, none⟩ = some (.int .i64 s.now) ∧ w'.cell? ⟨w.heap.size, 1, none⟩ = some (.int .i64 0) ∧ w'.cell? ⟨v, 2, none⟩ = some (.bool s.nexp)) (first | exact hS | exact hS2)
      (first
        | (go_at_call 65; refine (HCT.out _ ?_).mono ?_; (exact (Below.refl _ _).drew); rintro e w2 hg; obtain ⟨u, rfl, hu, hb2⟩ := givesO_v hg; have hbd : Below X.heap.size X w2 := (Below.refl _ X).drew.trans hb2; have hS2 := HKEEP.out w2 hbd))
    go_wp2_with fail
    go_meet
    case rel => exact ⟨hu _ (fun g hg => HR0.out.own_lt g hg), HR0.out.below hB hbd⟩
  case rest =>
  obtain ⟨Y1, hY1⟩ : ∃ Y1, Y1 = wc := ⟨_, rfl⟩
  rw [← hY1] at hcut ⊢
  clear hY1
  obtain ⟨hv1, hr1⟩ := hcut
  have hrun := hv1.run
  have hgd := fun x w => guard_nil x u7 w
  have HV1 := Lib.hid hv1; clear hv1
  have HRY1 := Lib.hid hr1; clear hr1
  go_upto_if 32 with fail
  go_cut [6] from 33 to 36 (fun s6 wx => VR B X se ([] ++ oL r1) s6 wx)
  case first =>
    rcases r1 with _ | k
    · go_wp2_with fail
      go_meet
      case rel => exact HRY1.out.zero
    · obtain ⟨T, y, rfl⟩ := ErrF.form HV1.out
      have hvv : ErrF Y1 (se k) s0.ownBlock (.iface T y) := HV1.out
      have HVV := Lib.hid hvv; clear hvv
      have hsz := HRY1.out.size kz
      obtain ⟨⟨vs, h1, h2, h3⟩, hbw⟩ := HRY1.out
      have hlen : vs.length ≤ 10 := by rw [h2]; simp only [List.length_append, List.length_nil]; omega
      have H1 := Lib.hid h1; have H2 := Lib.hid h2; have H3 := Lib.hid h3; have HBW := Lib.hid hbw; clear h1 h2 h3 hbw
      go_wp2_with (at_builtin; refine wpList_append_lies _ rfl _ _ 87 rfl B 51 i0 .nilIface 1 16 Tryz.underlying87 hi hz0 hz1 hz2 rfl (by decide) s0 vs.length vs rfl (H1.out.alloc _) ⟨Y1.heap.size, 0, none⟩ 1 1 [.iface T y] rfl rfl (cell_one_new _ _ _) (fun u hu => by simp at hu; subst hu; rfl) (by decide) (by unfold maxLen; omega) (by omega) (by simp; omega) (Y1.heap.size + 1) (by simp) ?_; intro g cap w3 hown3 hg3 hat3 hlt3)
      go_meet
      case rel => exact VR.add H1.out H2.out H3.out HBW.out hsz HVV.out hown3 hg3 hat3
  case rest =>
  clear hrun hgd HV1 HRY1 HR0
  obtain ⟨X1, hX1⟩ : ∃ X1, X1 = wc := ⟨_, rfl⟩
  rw [← hX1] at hcut ⊢
  clear hX1
  obtain ⟨s1, hs1⟩ : ∃ s1, s1 = u6 := ⟨_, rfl⟩
  rw [← hs1] at hcut ⊢
  clear hs1
  have HR1 := Lib.hid hcut; clear hcut
  go_upto_region 10 with fail
  go_cut [7] from 37 to 44 (fun s7 wx => ErrVF wx se r2 s1.ownBlock s7 ∧ VR B X se ([] ++ oL r1) s1 wx)
  case first =>
    have hB := HR1.out.size kz
    have hS : X1.cell? ⟨w.heap.size, 0, none⟩ = some (.int .i64 s.now) ∧ X1.cell? ⟨w.heap.size, 1, none⟩ = some (.int .i64 0) ∧ X1.cell? ⟨v, 3, none⟩ = some (.bool s.nnbf) :=
      ⟨(HR1.out.2.cell (p := ⟨w.heap.size, 0, none⟩) hlB).trans k0, (HR1.out.2.cell (p := ⟨w.heap.size, 1, none⟩) hlB).trans k1, cell_below HD.out.2.2.1 (HKB.out.trans (HR1.out.2.mono (by omega)))⟩
    have hct : ∀ W, Below X1.heap.size X1 W → Calls Tryz.prog 66 #[.pointer (some ⟨v, 0, none⟩), .iface 47 (.map (some bm)), .agg #[.int .i64 s.now, .int .i64 0], .bool s.nnbf] W (GivesO (r2.map se) W) := fun W hW =>
      have hb : Below w.heap.size w W := (HKB.out.trans (HR1.out.2.mono (by omega))).trans (hW.mono (by omega))
      HCH.out.nbf v bm W (HSE.out.below hb) (HM.out.below hb) (cell_below HD.out.1 hb)
    have HCT := Lib.hid hct; clear hct
    have keep : ∀ w2, Below X1.heap.size X1 w2 → w2.cell? ⟨w.heap.size, 0, none⟩ = some (.int .i64 s.now) ∧ w2.cell? ⟨w.heap.size, 1, none⟩ = some (.int .i64 0) ∧ w2.cell? ⟨v, 3, none⟩ = some (.bool s.nnbf) := fun w2 hb2 => ⟨cell_below hS.1 hb2, cell_below hS.2.1 hb2, cell_below hS.2.2 hb2⟩
    have HKEEP := Lib.hid keep; clear keep
    go_region_held3 (fun w' => w'.cell? ⟨w.heap.size, 0, none⟩ = some (.int .i64 s.now) ∧ w'.cell? ⟨w.heap.size, 1, none⟩ = some (.int .i64 0) ∧ w'.cell? ⟨v, 3, none⟩ = some (.bool s.nnbf)) (first | exact hS | exact hS2)
      (first
        | (go_at_call 66; refine (HCT.out _ ?_).mono ?_; (exact (Below.refl _ _).drew); rintro e w2 hg; obtain ⟨u, rfl, hu, hb2⟩ := givesO_v hg; have hbd : Below X1.heap.size X1 w2 := (Below.refl _ X1).drew.trans hb2; have hS2 := HKEEP.out w2 hbd))
    go_wp2_with fail
    go_meet
    case rel => exact ⟨hu _ (fun g hg => HR1.out.own_lt g hg), HR1.out.below hB hbd⟩
  case rest =>
  obtain ⟨Y2, hY2⟩ : ∃ Y2, Y2 = wc := ⟨_, rfl⟩
  rw [← hY2] at hcut ⊢
  clear hY2
  obtain ⟨hv2, hr2⟩ := hcut
  have hrun := hv2.run
  have hgd := fun x w => guard_nil x u7 w
  have HV2 := Lib.hid hv2; clear hv2
  have HRY2 := Lib.hid hr2; clear hr2
  go_upto_if 46 with fail
  go_cut [6] from 47 to 50 (fun s6 wx => VR B X se (([] ++ oL r1) ++ oL r2) s6 wx)
  case first =>
    rcases r2 with _ | k
    · go_wp2_with fail
      go_meet
      case rel => exact HRY2.out.zero
    · obtain ⟨T, y, rfl⟩ := ErrF.form HV2.out
      have hvv : ErrF Y2 (se k) s1.ownBlock (.iface T y) := HV2.out
      have HVV := Lib.hid hvv; clear hvv
      have hsz := HRY2.out.size kz
      obtain ⟨⟨vs, h1, h2, h3⟩, hbw⟩ := HRY2.out
      have hlen : vs.length ≤ 10 := by rw [h2]; simp only [List.length_append, List.length_nil]; have q1 := oL_len r1; omega
      have H1 := Lib.hid h1; have H2 := Lib.hid h2; have H3 := Lib.hid h3; have HBW := Lib.hid hbw; clear h1 h2 h3 hbw
      go_wp2_with (at_builtin; refine wpList_append_lies _ rfl _ _ 87 rfl B 51 i0 .nilIface 1 16 Tryz.underlying87 hi hz0 hz1 hz2 rfl (by decide) s1 vs.length vs rfl (H1.out.alloc _) ⟨Y2.heap.size, 0, none⟩ 1 1 [.iface T y] rfl rfl (cell_one_new _ _ _) (fun u hu => by simp at hu; subst hu; rfl) (by decide) (by unfold maxLen; omega) (by omega) (by simp; omega) (Y2.heap.size + 1) (by simp) ?_; intro g cap w3 hown3 hg3 hat3 hlt3)
      go_meet
      case rel => exact VR.add H1.out H2.out H3.out HBW.out hsz HVV.out hown3 hg3 hat3
  case rest =>
  clear hrun hgd HV2 HRY2 HR1
  obtain ⟨X2, hX2⟩ : ∃ X2, X2 = wc := ⟨_, rfl⟩
  rw [← hX2] at hcut ⊢
  clear hX2
  obtain ⟨s2, hs2⟩ : ∃ s2, s2 = u6 := ⟨_, rfl⟩
  rw [← hs2] at hcut ⊢
  clear hs2
  have HR2 := Lib.hid hcut; clear hcut
  have c4 := cell_below HD.out.2.2.2.1 (HKB.out.trans (HR2.out.2.mono (by omega)))
  go_upto_if 54 with fail
  go_cut [6] from 54 to 64 (fun s6 wx => VR B X se ((([] ++ oL r1) ++ oL r2) ++ oL r3) s6 wx)
  case first =>
    have hB := HR2.out.size kz
    have hbw : Below w.heap.size w X2 := HKB.out.trans (HR2.out.2.mono (by omega))
    have HBW0 := Lib.hid hbw; clear hbw
    generalize hE : s.iat = bE
    have HE := Lib.hid hE; clear hE
    cases bE
    · obtain rfl : r3 = none := HCH.out.iat0 HE.out
      go_wp2_with fail
      go_meet
      case rel => exact HR2.out.zero
    · have hct : ∀ W, Below X2.heap.size X2 W → Calls Tryz.prog 67 #[.pointer (some ⟨v, 0, none⟩), .iface 47 (.map (some bm)), .agg #[.int .i64 s.now, .int .i64 0], .bool false] W (GivesO (r3.map se) W) := fun W hW =>
        have hb : Below w.heap.size w W := HBW0.out.trans (hW.mono HBW0.out.size)
        HCH.out.iat HE.out v bm W (HSE.out.below hb) (HM.out.below hb) (cell_below HD.out.1 hb)
      have HCT := Lib.hid hct; clear hct
      have n0 : X2.cell? ⟨w.heap.size, 0, none⟩ = some (.int .i64 s.now) := (HR2.out.2.cell (p := ⟨w.heap.size, 0, none⟩) hlB).trans k0
      have n1 : X2.cell? ⟨w.heap.size, 1, none⟩ = some (.int .i64 0) := (HR2.out.2.cell (p := ⟨w.heap.size, 1, none⟩) hlB).trans k1
      go_wp2_with fail
      refine (HCT.out _ (Below.refl _ _)).mono ?_
      rintro e w2 hg
      obtain ⟨u, rfl, hu, hb2⟩ := givesO_v hg
      have HBW2 := Lib.hid hb2; clear hb2 hg
      have HRW := Lib.hid (HR2.out.below hB HBW2.out)
      have hvw := hu s2.ownBlock (fun g hg => HR2.out.own_lt g hg)
      have HVW := Lib.hid hvw; clear hvw hu
      rcases r3 with _ | k
      · obtain rfl : u = .nilIface := HVW.out
        go_wp2_with fail
        go_meet
        case rel => exact HRW.out.zero
      · obtain ⟨T, y, rfl⟩ := ErrF.form HVW.out
        have hvv : ErrF w2 (se k) s2.ownBlock (.iface T y) := HVW.out
        have HVV := Lib.hid hvv; clear hvv
        have hsz := HRW.out.size kz
        obtain ⟨⟨vs, h1, h2, h3⟩, hbw⟩ := HRW.out
        have hlen : vs.length ≤ 10 := by rw [h2]; simp only [List.length_append, List.length_nil]; have q1 := oL_len r1; have q2 := oL_len r2; omega
        have H1 := Lib.hid h1; have H2 := Lib.hid h2; have H3 := Lib.hid h3; have HBW := Lib.hid hbw; clear h1 h2 h3 hbw
        go_wp2_with (at_builtin; refine wpList_append_lies _ rfl _ _ 87 rfl B 51 i0 .nilIface 1 16 Tryz.underlying87 hi hz0 hz1 hz2 rfl (by decide) s2 vs.length vs rfl (H1.out.alloc _) ⟨w2.heap.size, 0, none⟩ 1 1 [.iface T y] rfl rfl (cell_one_new _ _ _) (fun u hu => by simp at hu; subst hu; rfl) (by decide) (by unfold maxLen; omega) (by omega) (by simp; omega) (w2.heap.size + 1) (by simp) ?_; intro g cap w3 hown3 hg3 hat3 hlt3)
        go_meet
        case rel => exact VR.add H1.out H2.out H3.out HBW.out hsz HVV.out hown3 hg3 hat3
  case rest =>
  clear HR2
  obtain ⟨X3, hX3⟩ : ∃ X3, X3 = wc := ⟨_, rfl⟩
  rw [← hX3] at hcut ⊢
  clear hX3
  obtain ⟨s3, hs3⟩ : ∃ s3, s3 = u6 := ⟨_, rfl⟩
  rw [← hs3] at hcut ⊢
  clear hs3
  have HR3 := Lib.hid hcut; clear hcut
  have c5 := cell_below HD.out.2.2.2.2.1 (HKB.out.trans (HR3.out.2.mono (by omega)))
  go_upto_if 70 with fail
  go_cut [6] from 70 to 87 (fun s6 wx => VR B X se (((([] ++ oL r1) ++ oL r2) ++ oL r3) ++ oL r4) s6 wx)
  case first =>
    have hB := HR3.out.size kz
    have hbw : Below w.heap.size w X3 := HKB.out.trans (HR3.out.2.mono (by omega))
    have HBW0 := Lib.hid hbw; clear hbw
    generalize hE : decide (0 < s.al) = bE
    have HE := Lib.hid hE; clear hE
    cases bE
    · obtain rfl : r4 = none := HCH.out.aud0 (by have := of_decide_eq_false HE.out; omega)
      go_wp2_with fail
      go_meet
      case rel => exact HR3.out.zero
    · have hct : ∀ W, Below X3.heap.size X3 W → Calls Tryz.prog 68 #[.pointer (some ⟨v, 0, none⟩), .iface 47 (.map (some bm)), .slice wa s.al wc0, .bool s.all] W (GivesO (r4.map se) W) := fun W hW =>
        have hb : Below w.heap.size w W := HBW0.out.trans (hW.mono HBW0.out.size)
        have hal0 : s.al ≠ 0 := by have := of_decide_eq_true HE.out; omega
        HCH.out.aud hal0 v bm W wa wc0 (HSE.out.below hb) (HM.out.below hb) ((HSTR.out hal0).below hb) (cell_below HD.out.2.2.2.2.1 hb)
      have HCT := Lib.hid hct; clear hct
      have c6 := cell_below (HD.out.2.2.2.2.2.1 (by have := of_decide_eq_true HE.out; omega)) HBW0.out
      have hS : X3.cell? ⟨v, 5, none⟩ = some (.slice wa s.al wc0) ∧ X3.cell? ⟨v, 6, none⟩ = some (.bool s.all) := ⟨c5, c6⟩
      have keep : ∀ w2, Below X3.heap.size X3 w2 → w2.cell? ⟨v, 5, none⟩ = some (.slice wa s.al wc0) ∧ w2.cell? ⟨v, 6, none⟩ = some (.bool s.all) := fun w2 hb2 => ⟨cell_below hS.1 hb2, cell_below hS.2 hb2⟩
      have HKEEP := Lib.hid keep; clear keep
      go_upto_region 18 with fail
      go_region_held3 (fun w' => w'.cell? ⟨v, 5, none⟩ = some (.slice wa s.al wc0) ∧ w'.cell? ⟨v, 6, none⟩ = some (.bool s.all)) (first | exact hS | exact hS2)
        (first
          | (go_at_call 68; refine (HCT.out _ ?_).mono ?_; (exact (Below.refl _ _).drew); rintro e w2 hg; obtain ⟨u, rfl, hu, hb2⟩ := givesO_v hg; have hbd : Below X3.heap.size X3 w2 := (Below.refl _ X3).drew.trans hb2; have hS2 := HKEEP.out w2 hbd))
      have HBW2 := Lib.hid hbd; clear hbd hb2 hg hS2
      have HRW := Lib.hid (HR3.out.below hB HBW2.out)
      have hvw := hu s3.ownBlock (fun g hg => HR3.out.own_lt g hg)
      have HVW := Lib.hid hvw; clear hvw hu
      rcases r4 with _ | k
      · obtain rfl : u = .nilIface := HVW.out
        go_wp2_with fail
        go_meet
        case rel => exact HRW.out.zero
      · obtain ⟨T, y, rfl⟩ := ErrF.form HVW.out
        have hvv : ErrF w2 (se k) s3.ownBlock (.iface T y) := HVW.out
        have HVV := Lib.hid hvv; clear hvv
        have hsz := HRW.out.size kz
        obtain ⟨⟨vs, h1, h2, h3⟩, hbw⟩ := HRW.out
        have hlen : vs.length ≤ 10 := by rw [h2]; simp only [List.length_append, List.length_nil]; have q1 := oL_len r1; have q2 := oL_len r2; have q3 := oL_len r3; omega
        have H1 := Lib.hid h1; have H2 := Lib.hid h2; have H3 := Lib.hid h3; have HBW := Lib.hid hbw; clear h1 h2 h3 hbw
        go_wp2_with (at_builtin; refine wpList_append_lies _ rfl _ _ 87 rfl B 51 i0 .nilIface 1 16 Tryz.underlying87 hi hz0 hz1 hz2 rfl (by decide) s3 vs.length vs rfl (H1.out.alloc _) ⟨w2.heap.size, 0, none⟩ 1 1 [.iface T y] rfl rfl (cell_one_new _ _ _) (fun u hu => by simp at hu; subst hu; rfl) (by decide) (by unfold maxLen; omega) (by omega) (by simp; omega) (w2.heap.size + 1) (by simp) ?_; intro g cap w3 hown3 hg3 hat3 hlt3)
        go_meet
        case rel => exact VR.add H1.out H2.out H3.out HBW.out hsz HVV.out hown3 hg3 hat3
  case rest =>
  clear HR3
  obtain ⟨X4, hX4⟩ : ∃ X4, X4 = wc := ⟨_, rfl⟩
  rw [← hX4] at hcut ⊢
  clear hX4
  obtain ⟨s4, hs4⟩ : ∃ s4, s4 = u6 := ⟨_, rfl⟩
  rw [← hs4] at hcut ⊢
  clear hs4
  have HR4 := Lib.hid hcut; clear hcut
  have c7 := cell_below HD.out.2.2.2.2.2.2.1 (HKB.out.trans (HR4.out.2.mono (by omega)))
  go_upto_if 92 with fail
  go_cut [6] from 92 to 105 (fun s6 wx => VR B X se ((((([] ++ oL r1) ++ oL r2) ++ oL r3) ++ oL r4) ++ oL r5) s6 wx)
  case first =>
    have hB := HR4.out.size kz
    have hbw : Below w.heap.size w X4 := HKB.out.trans (HR4.out.2.mono (by omega))
    have HBW0 := Lib.hid hbw; clear hbw
    generalize hE : (!s.iss.toList.isEmpty) = bE
    have HE := Lib.hid hE; clear hE
    cases bE
    · obtain rfl : r5 = none := HCH.out.iss0 (nil_beq HE.out)
      go_wp2_with fail
      go_meet
      case rel => exact HR4.out.zero
    · have hct : ∀ W, Below X4.heap.size X4 W → Calls Tryz.prog 69 #[.pointer (some ⟨v, 0, none⟩), .iface 47 (.map (some bm)), .string s.iss, .bool true] W (GivesO (r5.map se) W) := fun W hW =>
        have hb : Below w.heap.size w W := HBW0.out.trans (hW.mono HBW0.out.size)
        HCH.out.iss (cons_beq HE.out) v bm W (HSE.out.below hb) (HM.out.below hb)
      have HCT := Lib.hid hct; clear hct
      go_wp2_with fail
      refine (HCT.out _ (Below.refl _ _)).mono ?_
      rintro e w2 hg
      obtain ⟨u, rfl, hu, hb2⟩ := givesO_v hg
      have HBW2 := Lib.hid hb2; clear hb2 hg
      have HRW := Lib.hid (HR4.out.below hB HBW2.out)
      have hvw := hu s4.ownBlock (fun g hg => HR4.out.own_lt g hg)
      have HVW := Lib.hid hvw; clear hvw hu
      rcases r5 with _ | k
      · obtain rfl : u = .nilIface := HVW.out
        go_wp2_with fail
        go_meet
        case rel => exact HRW.out.zero
      · obtain ⟨T, y, rfl⟩ := ErrF.form HVW.out
        have hvv : ErrF w2 (se k) s4.ownBlock (.iface T y) := HVW.out
        have HVV := Lib.hid hvv; clear hvv
        have hsz := HRW.out.size kz
        obtain ⟨⟨vs, h1, h2, h3⟩, hbw⟩ := HRW.out
        have hlen : vs.length ≤ 10 := by rw [h2]; simp only [List.length_append, List.length_nil]; have q1 := oL_len r1; have q2 := oL_len r2; have q3 := oL_len r3; have q4 := oL_len r4; omega
        have H1 := Lib.hid h1; have H2 := Lib.hid h2; have H3 := Lib.hid h3; have HBW := Lib.hid hbw; clear h1 h2 h3 hbw
        go_wp2_with (at_builtin; refine wpList_append_lies _ rfl _ _ 87 rfl B 51 i0 .nilIface 1 16 Tryz.underlying87 hi hz0 hz1 hz2 rfl (by decide) s4 vs.length vs rfl (H1.out.alloc _) ⟨w2.heap.size, 0, none⟩ 1 1 [.iface T y] rfl rfl (cell_one_new _ _ _) (fun u hu => by simp at hu; subst hu; rfl) (by decide) (by unfold maxLen; omega) (by omega) (by simp; omega) (w2.heap.size + 1) (by simp) ?_; intro g cap w3 hown3 hg3 hat3 hlt3)
        go_meet
        case rel => exact VR.add H1.out H2.out H3.out HBW.out hsz HVV.out hown3 hg3 hat3
  case rest =>
  clear HR4
  obtain ⟨X5, hX5⟩ : ∃ X5, X5 = wc := ⟨_, rfl⟩
  rw [← hX5] at hcut ⊢
  clear hX5
  obtain ⟨s5, hs5⟩ : ∃ s5, s5 = u6 := ⟨_, rfl⟩
  rw [← hs5] at hcut ⊢
  clear hs5
  have HR5 := Lib.hid hcut; clear hcut
  have c8 := cell_below HD.out.2.2.2.2.2.2.2 (HKB.out.trans (HR5.out.2.mono (by omega)))
  go_upto_if 110 with fail
  go_cut [6] from 110 to 123 (fun s6 wx => VR B X se (((((([] ++ oL r1) ++ oL r2) ++ oL r3) ++ oL r4) ++ oL r5) ++ oL r6) s6 wx)
  case first =>
    have hB := HR5.out.size kz
    have hbw : Below w.heap.size w X5 := HKB.out.trans (HR5.out.2.mono (by omega))
    have HBW0 := Lib.hid hbw; clear hbw
    generalize hE : (!s.sub.toList.isEmpty) = bE
    have HE := Lib.hid hE; clear hE
    cases bE
    · obtain rfl : r6 = none := HCH.out.sub0 (nil_beq HE.out)
      go_wp2_with fail
      go_meet
      case rel => exact HR5.out.zero
    · have hct : ∀ W, Below X5.heap.size X5 W → Calls Tryz.prog 70 #[.pointer (some ⟨v, 0, none⟩), .iface 47 (.map (some bm)), .string s.sub, .bool true] W (GivesO (r6.map se) W) := fun W hW =>
        have hb : Below w.heap.size w W := HBW0.out.trans (hW.mono HBW0.out.size)
        HCH.out.sub (cons_beq HE.out) v bm W (HSE.out.below hb) (HM.out.below hb)
      have HCT := Lib.hid hct; clear hct
      go_wp2_with fail
      refine (HCT.out _ (Below.refl _ _)).mono ?_
      rintro e w2 hg
      obtain ⟨u, rfl, hu, hb2⟩ := givesO_v hg
      have HBW2 := Lib.hid hb2; clear hb2 hg
      have HRW := Lib.hid (HR5.out.below hB HBW2.out)
      have hvw := hu s5.ownBlock (fun g hg => HR5.out.own_lt g hg)
      have HVW := Lib.hid hvw; clear hvw hu
      rcases r6 with _ | k
      · obtain rfl : u = .nilIface := HVW.out
        go_wp2_with fail
        go_meet
        case rel => exact HRW.out.zero
      · obtain ⟨T, y, rfl⟩ := ErrF.form HVW.out
        have hvv : ErrF w2 (se k) s5.ownBlock (.iface T y) := HVW.out
        have HVV := Lib.hid hvv; clear hvv
        have hsz := HRW.out.size kz
        obtain ⟨⟨vs, h1, h2, h3⟩, hbw⟩ := HRW.out
        have hlen : vs.length ≤ 10 := by rw [h2]; simp only [List.length_append, List.length_nil]; have q1 := oL_len r1; have q2 := oL_len r2; have q3 := oL_len r3; have q4 := oL_len r4; have q5 := oL_len r5; omega
        have H1 := Lib.hid h1; have H2 := Lib.hid h2; have H3 := Lib.hid h3; have HBW := Lib.hid hbw; clear h1 h2 h3 hbw
        go_wp2_with (at_builtin; refine wpList_append_lies _ rfl _ _ 87 rfl B 51 i0 .nilIface 1 16 Tryz.underlying87 hi hz0 hz1 hz2 rfl (by decide) s5 vs.length vs rfl (H1.out.alloc _) ⟨w2.heap.size, 0, none⟩ 1 1 [.iface T y] rfl rfl (cell_one_new _ _ _) (fun u hu => by simp at hu; subst hu; rfl) (by decide) (by unfold maxLen; omega) (by omega) (by simp; omega) (w2.heap.size + 1) (by simp) ?_; intro g cap w3 hown3 hg3 hat3 hlt3)
        go_meet
        case rel => exact VR.add H1.out H2.out H3.out HBW.out hsz HVV.out hown3 hg3 hat3
  case rest =>
  clear HR5
  obtain ⟨X6, hX6⟩ : ∃ X6, X6 = wc := ⟨_, rfl⟩
  rw [← hX6] at hcut ⊢
  clear hX6
  obtain ⟨s6, hs6⟩ : ∃ s6, s6 = u6 := ⟨_, rfl⟩
  rw [← hs6] at hcut ⊢
  clear hs6
  have HR6 := Lib.hid hcut; clear hcut
  have hbw : Below w.heap.size w X6 := HKB.out.trans (HR6.out.2.mono (by omega))
  have HBW0 := Lib.hid hbw; clear hbw
  have hrow := errs_row HR6.out.1
  rw [← HKS.out] at hrow
  rcases hrow with ⟨h0, a, c, rfl⟩ | ⟨h0, g, c, rfl, hcells⟩
  · have H0 := Lib.hid h0; clear h0
    go_wp2_with fail
    go_ret
    exact .inl ⟨H0.out, rfl, HBW0.out⟩
  · obtain ⟨n, hn⟩ : ∃ n, n = KS.length := ⟨_, rfl⟩
    have hpos : 0 < n := by rw [hn]; exact List.length_pos_iff.2 h0
    have hz : ((n : Int) == 0) = false := by simp; omega
    rw [← hn]
    have H0 := Lib.hid h0; clear h0
    have HN := Lib.hid hn; clear hn
    have HC := Lib.hid hcells; clear hcells
    go_wp2_with fail
    refine (joinErrors_is (some ⟨g, 0, none⟩) n c X6).mono ?_
    rintro e w2 ⟨b, rfl, hc, hb2⟩
    have HCC := Lib.hid hc; have HB2 := Lib.hid hb2; clear hc hb2
    go_wp2_with fail
    go_ret
    refine .inr ⟨H0.out, b, g, c, rfl, by rw [← HN.out]; exact HCC.out, fun i h => ?_, HBW0.out.trans (HB2.out.mono HBW0.out.size)⟩
    obtain ⟨u, e1, e2⟩ := HC.out i h
    exact ⟨u, cell_below e1 HB2.out, e2.below HB2.out⟩
end Go.Proofs.YtgaaehpmbkjhlaaGreatDoor
