/- errors.Is over the package's errors; impl.numbersOf. -/
import Derived.Test.YtgaaehpmbkjhlaaGreatDoorWErr
import Derived.Stop.Asserts
import Derived.Deep.MidRow
namespace Go.Proofs.YtgaaehpmbkjhlaaGreatDoor
open Go Go.RowKit Go.Extern.Stop Go.Stop Go.Extern

theorem Tryz.isTypeOf (v : Value) (w : World) : (Extern.ReflectliteType.typeOf #[.iface 208 v]).run Tryz.prog w = .ok (.iface 152 (.agg #[.pointer (some ⟨38, 208, none⟩)])) w := by kernel_rfl
noncomputable def isCmp : Array Value → Sem Value := Extern.ReflectliteType.method fun t => do Extern.Rtype.noPackHeld "Comparable" t; pure (.bool (← typeInfo t).comparable)
theorem Tryz.isComparable (w : World) : (isCmp #[.agg #[.pointer (some ⟨38, 208, none⟩)]]).run Tryz.prog w = .ok (.bool true) w := by kernel_rfl
theorem Tryz.isComp : (Tryz.prog.info? 208).map (·.comparable) = some true := by kernel_rfl
theorem Tryz.isSize : (Tryz.prog.info? 210).map (·.size) = some 1 := by kernel_rfl
theorem Tryz.noIs208 (v : Value) (xT : TypeId) (w : World) : (Instr.typeAssert (.iface 208 v) xT 154 true).run Tryz.prog w = .ok (.tuple #[.nilIface, .bool false]) w := run_typeAssert_lacksB Tryz.underlying154 (by kernel_rfl) (by kernel_rfl) v xT w
theorem Tryz.noUnwrap208 (v : Value) (xT : TypeId) (w : World) : (Instr.typeAssert (.iface 208 v) xT 157 true).run Tryz.prog w = .ok (.tuple #[.nilIface, .bool false]) w := run_typeAssert_lacksB Tryz.underlying157 (by kernel_rfl) (by kernel_rfl) v xT w
theorem Tryz.noUnwraps208 (v : Value) (xT : TypeId) (w : World) : (Instr.typeAssert (.iface 208 v) xT 158 true).run Tryz.prog w = .ok (.tuple #[.nilIface, .bool false]) w := run_typeAssert_lacksB Tryz.underlying158 (by kernel_rfl) (by kernel_rfl) v xT w
theorem Tryz.noIs148 (v : Value) (xT : TypeId) (w : World) : (Instr.typeAssert (.iface 148 v) xT 154 true).run Tryz.prog w = .ok (.tuple #[.nilIface, .bool false]) w := run_typeAssert_lacksB Tryz.underlying154 (by kernel_rfl) (by kernel_rfl) v xT w
theorem Tryz.noUnwrap148 (v : Value) (xT : TypeId) (w : World) : (Instr.typeAssert (.iface 148 v) xT 157 true).run Tryz.prog w = .ok (.tuple #[.nilIface, .bool false]) w := run_typeAssert_lacksB Tryz.underlying157 (by kernel_rfl) (by kernel_rfl) v xT w
theorem Tryz.hasUnwraps148 (v : Value) (xT : TypeId) (w : World) : (Instr.typeAssert (.iface 148 v) xT 158 true).run Tryz.prog w = .ok (.tuple #[.iface 148 v, .bool true]) w := run_typeAssert_hasB Tryz.underlying158 (by kernel_rfl) v xT w
theorem Tryz.noIs138 (v : Value) (xT : TypeId) (w : World) : (Instr.typeAssert (.iface 138 v) xT 154 true).run Tryz.prog w = .ok (.tuple #[.nilIface, .bool false]) w := run_typeAssert_lacksB Tryz.underlying154 (by kernel_rfl) (by kernel_rfl) v xT w
theorem Tryz.noUnwrap138 (v : Value) (xT : TypeId) (w : World) : (Instr.typeAssert (.iface 138 v) xT 157 true).run Tryz.prog w = .ok (.tuple #[.nilIface, .bool false]) w := run_typeAssert_lacksB Tryz.underlying157 (by kernel_rfl) (by kernel_rfl) v xT w
theorem Tryz.hasUnwraps138 (v : Value) (xT : TypeId) (w : World) : (Instr.typeAssert (.iface 138 v) xT 158 true).run Tryz.prog w = .ok (.tuple #[.iface 138 v, .bool true]) w := run_typeAssert_hasB Tryz.underlying158 (by kernel_rfl) v xT w

theorem Tryz.unwrap138 : (Tryz.prog.info? 138).map (fun i => (i.methods.find? (·.name == "Unwrap")).map (fun m => (m.path, m.func))) = some (some (#[], some (189, false))) := by kernel_rfl
set_option maxRecDepth 10000 in
theorem Tryz.methodUnwrap138 (fuel : Nat) (b : Nat) (v : Value) (w : World) (h : w.cell? ⟨b, 0, none⟩ = some v) : (Go.method (fuel + 1) 138 (.pointer (some ⟨b, 0, none⟩)) "Unwrap").run Tryz.prog w = .ok (189, .agg #[v]) w := by
  obtain ⟨i, hi, hm⟩ := Option.map_eq_some_iff.1 Tryz.unwrap138
  obtain ⟨m, hm1, hm2⟩ := Option.map_eq_some_iff.1 hm
  obtain ⟨hp, hf⟩ := Prod.mk.inj hm2
  have e : ∀ s, (Builtin.ssaWrapNilChk_ #[138] 138 #[Value.pointer (some { block := b, off := 0 }), strVal "", strVal s]).run Tryz.prog w = .ok (Value.pointer (some { block := b, off := 0 })) w := fun s => rfl
  have hl := run_loadVar_mid (P := Tryz.prog) w b 0 140 [v] _ (fun j u hu => by cases j with | zero => simp at hu; subst hu; simpa using h | succ j => simp at hu) Tryz.underlying140 rfl (by kernel_rfl)
  simp only [Go.method]
  simp [typeInfo, hi, hm1, hp, hf, follow, receiverAt, run_underlying Tryz.underlying138, Place.get, e, asAddr, hl]

theorem eq_sent (w : World) (se : Nat → Addr) (hse : Sen w se) (k j : Nat) (hk : k < 16) (hj : j < 16) : (binOp .eql 51 (snt (se k)) (snt (se j))).run Tryz.prog w = .ok (.bool (decide (k = j))) w := by
  obtain ⟨i, hi, hcmp⟩ := Option.map_eq_some_iff.1 Tryz.isComp
  obtain ⟨i2, hi2, hs⟩ := Option.map_eq_some_iff.1 Tryz.isSize
  by_cases h : k = j
  · subst h
    simpa using run_eql_iface_ptr_same (P := Tryz.prog) w (se k) Tryz.underlying51 Tryz.underlying208 hi hcmp hi2
  · obtain ⟨ca, ta, ha⟩ := hse.row k hk
    obtain ⟨cb, tb, hb⟩ := hse.row j hj
    have := run_eql_iface_ptr_other (P := Tryz.prog) w Tryz.underlying51 Tryz.underlying208 hi hcmp hi2 (by rw [hs]; decide) (fun e => h (hse.inj k j hk hj e)) ha hb
    simpa [h] using this

theorem is_leaf (se : Nat → Addr) (k j : Nat) (w : World) (hse : Sen w se) (hk : k < 16) (hj : j < 16) :
    Calls Tryz.prog 82 #[snt (se k), snt (se j), .bool true] w fun e w' => e = .returned (.bool (decide (k = j))) ∧ w = w' := by
  have heq := eq_sent w se hse k j hk hj
  clear hse
  have n1 := Tryz.noIs208
  have n2 := Tryz.noUnwrap208
  have n3 := Tryz.noUnwraps208
  generalize se k = a at heq ⊢
  generalize se j = b at heq ⊢
  rcases Decidable.em (k = j) with h | h
  · rw [decide_eq_true h] at heq ⊢
    go_enter Tryz.func82, Tryz.ntmps82
    go_wp2
    refine wp_loop_rounds 1 ?_
    rw [rounds_succ]
    go_wp2
    go_ret
    exact ⟨rfl, rfl⟩
  · rw [decide_eq_false h] at heq ⊢
    go_enter Tryz.func82, Tryz.ntmps82
    go_wp2
    refine wp_loop_rounds 1 ?_
    rw [rounds_succ]
    go_wp2
    go_ret
    exact ⟨rfl, rfl⟩

set_option maxRecDepth 100000 in
theorem is_wrap (se : Nat → Addr) (k j b c : Nat) (w : World) (hse : Sen w se) (hk : k < 16) (hj : j < 16) (h1 : w.cell? ⟨b, 1, none⟩ = some (.slice (some ⟨c, 0, none⟩) 1 1)) (h2 : w.cell? ⟨c, 0, none⟩ = some (snt (se k))) :
    Calls Tryz.prog 82 #[.iface 148 (.pointer (some ⟨b, 0, none⟩)), snt (se j), .bool true] w fun e w' => e = .returned (.bool (decide (k = j))) ∧ w = w' := by
  have H := Lib.hid (is_leaf se k j w hse hk hj)
  clear hse
  have n1 := Tryz.noIs148
  have n2 := Tryz.noUnwrap148
  have n3 := Tryz.hasUnwraps148
  have hty := run_eql_iface_types (P := Tryz.prog) 148 208 (.pointer (some ⟨b, 0, none⟩)) (.pointer (some (se j))) Tryz.underlying51 (by decide) w
  generalize se k = a at H h2 ⊢
  generalize se j = a2 at H hty ⊢
  generalize decide (k = j) = r at H ⊢
  go_enter Tryz.func82, Tryz.ntmps82
  go_wp2
  refine wp_loop_rounds 1 ?_
  rw [rounds_succ]
  go_wp2_with (first | (go_at_call 82; refine H.out.mono ?_; rintro e w' ⟨rfl, rfl⟩) | go_in)
  refine wp_loop_rounds 2 ?_
  rw [rounds_succ]
  cases r
  · go_wp2_with (first | (go_at_call 82; refine H.out.mono ?_; rintro e w' ⟨rfl, rfl⟩) | go_in)
    rw [rounds_succ]
    go_wp2
    go_ret
    exact ⟨rfl, rfl⟩
  · go_wp2_with (first | (go_at_call 82; refine H.out.mono ?_; rintro e w' ⟨rfl, rfl⟩) | go_in)
    go_ret
    exact ⟨rfl, rfl⟩

theorem is_err (se : Nat → Addr) (k j : Nat) (v : Value) (w : World) (hse : Sen w se) (hk : k < 16) (hj : j < 16) {B : Nat} (h : ErrAt w (se k) B v) :
    Calls Tryz.prog 82 #[v, snt (se j), .bool true] w fun e w' => e = .returned (.bool (decide (k = j))) ∧ w = w' := by
  cases h with
  | plain => exact is_leaf se k j w hse hk hj
  | wrapped b c h1 h2 l1 l2 => exact is_wrap se k j b c w hse hk hj h1 h2

/-- Errors lie one behind the other: each is, or wraps, its sentinel. -/
structure ErrsAt (w : World) (se : Nat → Addr) (g : Nat) (ks : List Nat) : Prop where
  at_ : ∀ i (h : i < ks.length), ∃ v, w.cell? ⟨g, i, none⟩ = some v ∧ ErrAt w (se ks[i]) 0 v
  lt : ∀ k ∈ ks, k < 16

theorem ErrsAt.below {w w' : World} {se : Nat → Addr} {g : Nat} {ks : List Nat} (h : ErrsAt w se g ks) (hb : Below w.heap.size w w') : ErrsAt w' se g ks :=
  ⟨fun i hi => let ⟨v, h1, h2⟩ := h.at_ i hi; ⟨v, cell_below h1 hb, h2.below hb⟩, h.lt⟩

theorem unwrapJoined (a : Option Addr) (n c : Nat) (w : World) : Calls Tryz.prog 189 #[.agg #[.slice a n c]] w (Gives (.slice a n c) w) := by
  go_enter Tryz.func189, Tryz.ntmps189
  go_wp2
  go_ret
  exact ⟨rfl, by go_grown⟩

set_option maxRecDepth 100000 in
set_option maxHeartbeats 400000 in
theorem is_joined (se : Nat → Addr) (ks : List Nat) (j b g n c : Nat) (w : World) (hse : Sen w se) (hj : j < 16) (h1 : w.cell? ⟨b, 0, none⟩ = some (.slice (some ⟨g, 0, none⟩) n c)) (hn : ks.length = n) (hmax : n ≤ 1000) (h : ErrsAt w se g ks) :
    Calls Tryz.prog 82 #[.iface 138 (.pointer (some ⟨b, 0, none⟩)), snt (se j), .bool true] w (Gives (.bool (decide (j ∈ ks))) w) := by
  have n1 := Tryz.noIs138
  have n2 := Tryz.noUnwrap138
  have n3 := Tryz.hasUnwraps138
  have mU : ∀ w : World, w.cell? ⟨b, 0, none⟩ = some (.slice (some ⟨g, 0, none⟩) n c) → (Go.method 413 138 (.pointer (some ⟨b, 0, none⟩)) "Unwrap").run Tryz.prog w = .ok (189, .agg #[.slice (some ⟨g, 0, none⟩) n c]) w := fun w h => Tryz.methodUnwrap138 412 b (.slice (some ⟨g, 0, none⟩) n c) w h
  have hty := fun w => run_eql_iface_types (P := Tryz.prog) 138 208 (.pointer (some ⟨b, 0, none⟩)) (.pointer (some (se j))) Tryz.underlying51 (by decide) w
  have HSE := Lib.hid hse; clear hse
  have HN := Lib.hid hn; clear hn
  have HE := Lib.hid h; clear h
  obtain ⟨a2, ha2⟩ : ∃ a2, a2 = se j := ⟨_, rfl⟩
  rw [← ha2] at hty ⊢
  have HA := Lib.hid ha2; clear ha2
  go_enter Tryz.func82, Tryz.ntmps82
  go_wp2
  refine wp_loop_rounds 1 ?_
  rw [rounds_succ]
  go_wp2_with (first | (go_at_call 189; refine (unwrapJoined (some ⟨g, 0, none⟩) n c _).mono ?_; rintro e w1 ⟨rfl, hb1⟩) | go_in)
  have HB1 := Lib.hid hb1; clear hb1
  clear n1 n2 n3 mU hty
  go_loopw [45] (fun i wr => ∃ m : Nat, m ≤ n ∧ i = .int .i64 m ∧ (∀ q (h : q < ks.length), q < m → ks[q] ≠ j) ∧ Below w.heap.size w wr) (fun i _ => n - (intOf i).toNat)
  case atStart => exact ⟨0, Nat.zero_le _, rfl, (fun _ _ h => by omega), HB1.out⟩
  case round =>
    obtain ⟨m, hm, rfl, hno, hb⟩ := hrel
    have HB := Lib.hid hb; clear hb
    have HNO := Lib.hid hno; clear hno
    by_cases hlt : m < n
    · have hm' : m < ks.length := by rw [HN.out]; exact hlt
      obtain ⟨v, hv, herr⟩ := (HE.out.below HB.out).at_ m hm'
      have hk16 := HE.out.lt _ (List.getElem_mem hm')
      obtain ⟨k, hk⟩ : ∃ k, k = ks[m] := ⟨_, rfl⟩
      rw [← hk] at herr hk16
      have hIS := is_err se k j v wr (HSE.out.below HB.out) hk16 hj herr
      rw [← HA.out] at hIS
      obtain ⟨T, y, rfl⟩ := herr.form
      have HK := Lib.hid hk; clear hk
      have HIS := Lib.hid hIS; clear hIS herr
      by_cases he : k = j
      · rw [decide_eq_true he] at HIS
        go_wp2_with (first | (go_at_call 82; refine HIS.out.mono ?_; rintro e w' ⟨rfl, rfl⟩) | go_in)
        go_ret
        exact ⟨by rw [decide_eq_true (show j ∈ ks by rw [← he, HK.out]; exact List.getElem_mem hm')]; rfl, HB.out⟩
      · rw [decide_eq_false he] at HIS
        go_wp2_with (first | (go_at_call 82; refine HIS.out.mono ?_; rintro e w' ⟨rfl, rfl⟩) | go_in)
        refine ⟨⟨m + 1, by omega, by go_num, fun q hq hlt2 => ?_, HB.out⟩, by simp [intOf]; omega⟩
        rcases Nat.lt_or_ge q m with h' | h'
        · exact HNO.out q hq h'
        · obtain rfl : q = m := by omega
          rw [← HK.out]; exact he
    · obtain rfl : m = n := by omega
      go_wp2
      go_ret
      have hnot : j ∉ ks := by
        intro hmem
        obtain ⟨q, hq, he⟩ := List.mem_iff_getElem.1 hmem
        exact HNO.out q hq (by have := HN.out; omega) he
      refine ⟨?_, HB.out⟩
      rw [decide_eq_false hnot]
      rfl

theorem notIface_nil (T : TypeId) (y : Value) (w : World) : (binOp .eql 51 (.iface T y) .nilIface).run Tryz.prog w = .ok (.bool false) w := by
  simp only [binOp]
  have h : ∀ d : Nat, (Op.equalIn (d + 1) 51 (.iface T y) .nilIface).run Tryz.prog w = .ok false w := fun d => by simp [Op.equalIn, run_underlying Tryz.underlying51]
  simp [Op.equal, Op.maxDepth, h 9999]

set_option maxRecDepth 100000 in
set_option maxHeartbeats 400000 in
/-- errors.Is of joined errors. -/
theorem isJoined (se : Nat → Addr) (ks : List Nat) (j b g n c : Nat) (w : World) (hse : Sen w se) (hj : j < 16) (h1 : w.cell? ⟨b, 0, none⟩ = some (.slice (some ⟨g, 0, none⟩) n c)) (hn : ks.length = n) (hmax : n ≤ 1000) (h : ErrsAt w se g ks) :
    Calls Tryz.prog 47 #[.iface 138 (.pointer (some ⟨b, 0, none⟩)), snt (se j)] w (Gives (.bool (decide (j ∈ ks))) w) := by
  have H := Lib.hid (is_joined se ks j b g n c w hse hj h1 hn hmax h)
  clear hse h1 hn h
  have hty := fun w => run_eql_iface_types (P := Tryz.prog) 138 208 (.pointer (some ⟨b, 0, none⟩)) (.pointer (some (se j))) Tryz.underlying51 (by decide) w
  generalize se j = a2 at H hty ⊢
  generalize decide (j ∈ ks) = r at H ⊢
  have h8 := @run_callFunc_extern Tryz.prog 81 _ Extern.ReflectliteType.typeOf Tryz.func81 (by kernel_rfl) (by kernel_rfl) (by kernel_rfl) (by kernel_rfl)
  have h32 := @run_callFunc_extern Tryz.prog 203 _ isCmp Tryz.func203 (by kernel_rfl) (by kernel_rfl) (by kernel_rfl) (by kernel_rfl)
  have tT := Tryz.isTypeOf
  have cT := Tryz.isComparable
  go_enter Tryz.func47, Tryz.ntmps47
  go_wp2_with (first | (go_at_call 82; refine H.out.mono ?_; rintro e w' ⟨rfl, hb⟩) | go_in)
  go_ret
  exact ⟨rfl, hb⟩
end Go.Proofs.YtgaaehpmbkjhlaaGreatDoor
