/- The sixteen sentinels, out of what the rows' cell 'laid' says. No conditions. -/
import Derived.Test.YtgaaehpmbkjhlaaGreatDoorRows
import Derived.Test.YtgaaehpmbkjhlaaGreatDoorWErr
import Derived.Stop.LaidErr
import Derived.Deep.Slices
namespace Go.Proofs.YtgaaehpmbkjhlaaGreatDoor
open Go Go.RowKit Go.ChangeShapes Go.Deep

theorem Tryz.star : "*" ++ "errors.errorString" = "*errors.errorString" := by decide
theorem Tryz.rowErr (u : TypeId) (h : Tryz.prog.typeName? 3 u = some "*errors.errorString") : u = 208 :=
  typeName_ptr_named (nm := "errors.errorString") (by rw [Tryz.star]; kernel_rfl) (by kernel_rfl) (by decide) u (by rw [Tryz.star]; exact h)
theorem cells210 : Tryz.prog.cellsOf 210 = 1 := by kernel_rfl
theorem cellsS : Tryz.prog.cellsOf 9 = 1 := by kernel_rfl

/-- What the sentinel of number k reads as, and its text. -/
def sentD : Nat → DataW Unit
  | 0 => Rows.laid_loop_example_pub_g03071_pub_jwt_ErrTokenMalformed
  | 1 => Rows.laid_loop_example_pub_g03071_pub_jwt_ErrTokenUnverifiable
  | 2 => Rows.laid_loop_example_pub_g03071_pub_jwt_ErrTokenSignatureInvalid
  | 3 => Rows.laid_loop_example_pub_g03071_pub_jwt_ErrTokenRequiredClaimMissing
  | 4 => Rows.laid_loop_example_pub_g03071_pub_jwt_ErrTokenInvalidAudience
  | 5 => Rows.laid_loop_example_pub_g03071_pub_jwt_ErrTokenExpired
  | 6 => Rows.laid_loop_example_pub_g03071_pub_jwt_ErrTokenUsedBeforeIssued
  | 7 => Rows.laid_loop_example_pub_g03071_pub_jwt_ErrTokenInvalidIssuer
  | 8 => Rows.laid_loop_example_pub_g03071_pub_jwt_ErrTokenInvalidSubject
  | 9 => Rows.laid_loop_example_pub_g03071_pub_jwt_ErrTokenNotValidYet
  | 10 => Rows.laid_loop_example_pub_g03071_pub_jwt_ErrTokenInvalidId
  | 11 => Rows.laid_loop_example_pub_g03071_pub_jwt_ErrTokenInvalidClaims
  | 12 => Rows.laid_loop_example_pub_g03071_pub_jwt_ErrInvalidKeyType
  | 13 => Rows.laid_loop_example_pub_g03071_pub_jwt_ErrInvalidType
  | 14 => Rows.laid_loop_example_pub_g03071_pub_jwt_ErrInvalidKey
  | _ => Rows.laid_loop_example_pub_g03071_pub_jwt_ErrHashUnavailable
def textD : DataW Unit → List UInt8
  | .iface _ (.ptr (.agg [.lit (.string t)])) => t
  | _ => []
def sentT (k : Nat) : List UInt8 := textD (sentD k)

theorem sent_len : ∀ k, k < 16 → (sentT k).length ≤ 100 := by decide +kernel
theorem sent_inj : ∀ i, i < 16 → ∀ j, j < 16 → sentT i = sentT j → i = j := by decide +kernel

/-- One sentinel. -/
def SenOne (W : World) (k : Nat) : Prop := ∃ (a : Addr) (s : ByteArray) (c : Array Value) (t : TypeId), W.cell? ⟨k, 0, none⟩ = some (snt a) ∧ W.cell? a = some (.string s) ∧ s.data.toList = sentT k ∧ W.heap[a.block]? = some (.cells c t (0, 0))

set_option maxRecDepth 100000 in
theorem laid_sen1 {n : String} {d : DataW Unit} {r : List (String × DataW Unit)} {W : World} (k : Nat) (h : laidMet Tryz.prog ((n, d) :: r) W) (hd : d = .iface "*errors.errorString" (.ptr (.agg [.lit (.string (sentT k))])))
    (hg : Tryz.prog.globalNamed n = some k) (ht : (Tryz.prog.globals[k]?).map (·.type) = some 51) : SenOne W k := by
  subst hd
  obtain ⟨ps, ⟨g0', t0', cs0, f0, p0, q0, hg0', ht0', hv0, hd0, _, e0⟩, hnd, hrows⟩ := h
  obtain rfl := Option.some.inj (hg.symm.trans hg0')
  obtain rfl := Option.some.inj (ht.symm.trans ht0')
  subst e0
  obtain ⟨l0⟩ := cs0
  have ok0 : ∀ u v, l0 = [.iface u v] → Value.okWide Tryz.prog W .any 0 u v := fun u v e => by
    subst e
    exact (hrows k 0 (by simp [MemPlace.row])).2 u v (by simpa using World.var?_cell hg0' hv0 0)
  obtain ⟨a0, s0, rfl, hc0, hs0, hz0, rfl⟩ := errorString_of_trod Tryz.underlying51 Tryz.rowErr Tryz.underlying208 Tryz.underlying210 rfl rfl Tryz.underlying9 cells210 cellsS hd0 ok0
  obtain ⟨c0, t0, hb0⟩ := (hrows a0.block a0.off (by simp [MemPlace.row])).1
  exact ⟨a0, s0, c0, t0, by simpa using World.var?_cell hg0' hv0 0, hc0, hs0, hb0⟩

instance : Inhabited Addr := ⟨⟨0, 0, none⟩⟩

theorem sen_of {W : World} (h : ∀ k, k < 16 → SenOne W k) : ∃ se, Sen W se := by
  obtain ⟨se, hse⟩ := choose_lt (α := Addr) (n := 16) (p := fun k a => ∃ (s : ByteArray) (c : Array Value) (t : TypeId), W.cell? ⟨k, 0, none⟩ = some (snt a) ∧ W.cell? a = some (.string s) ∧ s.data.toList = sentT k ∧ W.heap[a.block]? = some (.cells c t (0, 0))) h
  refine ⟨se, fun k hk => ?_, fun k hk => ?_, fun k hk => ?_, fun i j hi hj e => ?_⟩
  · obtain ⟨s, c, t, h1, _⟩ := hse k hk
    exact h1
  · obtain ⟨s, c, t, _, h2, h3, _⟩ := hse k hk
    refine ⟨s, h2, ?_⟩
    have h4 : s.size = s.data.toList.length := by rw [Array.length_toList]; rfl
    rw [h4, h3]
    exact sent_len k hk
  · obtain ⟨s, c, t, _, _, _, h4⟩ := hse k hk
    exact ⟨c, t, h4⟩
  · obtain ⟨s, c, t, _, h2, h3, _⟩ := hse i hi
    obtain ⟨s', c', t', _, h2', h3', _⟩ := hse j hj
    rw [e, h2'] at h2
    have e2 : s' = s := by simpa using h2
    exact sent_inj i hi j hj (by rw [← h3, ← h3', e2])

set_option maxRecDepth 100000 in
theorem sen_validate {W : World} (h : laidMet Tryz.prog Rows.fnValidateRow.laid W) : ∃ se, Sen W se := by
  have e14 : SenOne W 14 := laid_sen1 14 h rfl (by kernel_rfl) (by kernel_rfl)
  have h1 := h.tail
  have e12 : SenOne W 12 := laid_sen1 12 h1 rfl (by kernel_rfl) (by kernel_rfl)
  have h2 := h1.tail
  have e15 : SenOne W 15 := laid_sen1 15 h2 rfl (by kernel_rfl) (by kernel_rfl)
  have h3 := h2.tail
  have e0 : SenOne W 0 := laid_sen1 0 h3 rfl (by kernel_rfl) (by kernel_rfl)
  have h4 := h3.tail
  have e1 : SenOne W 1 := laid_sen1 1 h4 rfl (by kernel_rfl) (by kernel_rfl)
  have h5 := h4.tail
  have e2 : SenOne W 2 := laid_sen1 2 h5 rfl (by kernel_rfl) (by kernel_rfl)
  have h6 := h5.tail
  have e3 : SenOne W 3 := laid_sen1 3 h6 rfl (by kernel_rfl) (by kernel_rfl)
  have h7 := h6.tail
  have e4 : SenOne W 4 := laid_sen1 4 h7 rfl (by kernel_rfl) (by kernel_rfl)
  have h8 := h7.tail
  have e5 : SenOne W 5 := laid_sen1 5 h8 rfl (by kernel_rfl) (by kernel_rfl)
  have h9 := h8.tail
  have e6 : SenOne W 6 := laid_sen1 6 h9 rfl (by kernel_rfl) (by kernel_rfl)
  have h10 := h9.tail
  have e7 : SenOne W 7 := laid_sen1 7 h10 rfl (by kernel_rfl) (by kernel_rfl)
  have h11 := h10.tail
  have e8 : SenOne W 8 := laid_sen1 8 h11 rfl (by kernel_rfl) (by kernel_rfl)
  have h12 := h11.tail
  have e9 : SenOne W 9 := laid_sen1 9 h12 rfl (by kernel_rfl) (by kernel_rfl)
  have h13 := h12.tail
  have e10 : SenOne W 10 := laid_sen1 10 h13 rfl (by kernel_rfl) (by kernel_rfl)
  have h14 := h13.tail
  have e11 : SenOne W 11 := laid_sen1 11 h14 rfl (by kernel_rfl) (by kernel_rfl)
  have h15 := h14.tail
  have e13 : SenOne W 13 := laid_sen1 13 h15 rfl (by kernel_rfl) (by kernel_rfl)
  exact sen_of fun k hk => match k, hk with
    | 0, _ => e0
    | 1, _ => e1
    | 2, _ => e2
    | 3, _ => e3
    | 4, _ => e4
    | 5, _ => e5
    | 6, _ => e6
    | 7, _ => e7
    | 8, _ => e8
    | 9, _ => e9
    | 10, _ => e10
    | 11, _ => e11
    | 12, _ => e12
    | 13, _ => e13
    | 14, _ => e14
    | 15, _ => e15
    | k + 16, hk => by omega

set_option maxRecDepth 100000 in
theorem sen_types {W : World} (h : laidMet Tryz.prog Rows.fnTypesRow.laid W) : ∃ se, Sen W se := by
  have h1 := h.tail
  have h2 := h1.tail
  have h3 := h2.tail
  have h4 := h3.tail
  have h5 := h4.tail
  have h6 := h5.tail
  have h7 := h6.tail
  have h8 := h7.tail
  have h9 := h8.tail
  have h10 := h9.tail
  have h11 := h10.tail
  have e14 : SenOne W 14 := laid_sen1 14 h11 rfl (by kernel_rfl) (by kernel_rfl)
  have h12 := h11.tail
  have e12 : SenOne W 12 := laid_sen1 12 h12 rfl (by kernel_rfl) (by kernel_rfl)
  have h13 := h12.tail
  have e15 : SenOne W 15 := laid_sen1 15 h13 rfl (by kernel_rfl) (by kernel_rfl)
  have h14 := h13.tail
  have e0 : SenOne W 0 := laid_sen1 0 h14 rfl (by kernel_rfl) (by kernel_rfl)
  have h15 := h14.tail
  have e1 : SenOne W 1 := laid_sen1 1 h15 rfl (by kernel_rfl) (by kernel_rfl)
  have h16 := h15.tail
  have e2 : SenOne W 2 := laid_sen1 2 h16 rfl (by kernel_rfl) (by kernel_rfl)
  have h17 := h16.tail
  have e3 : SenOne W 3 := laid_sen1 3 h17 rfl (by kernel_rfl) (by kernel_rfl)
  have h18 := h17.tail
  have e4 : SenOne W 4 := laid_sen1 4 h18 rfl (by kernel_rfl) (by kernel_rfl)
  have h19 := h18.tail
  have e5 : SenOne W 5 := laid_sen1 5 h19 rfl (by kernel_rfl) (by kernel_rfl)
  have h20 := h19.tail
  have e6 : SenOne W 6 := laid_sen1 6 h20 rfl (by kernel_rfl) (by kernel_rfl)
  have h21 := h20.tail
  have e7 : SenOne W 7 := laid_sen1 7 h21 rfl (by kernel_rfl) (by kernel_rfl)
  have h22 := h21.tail
  have e8 : SenOne W 8 := laid_sen1 8 h22 rfl (by kernel_rfl) (by kernel_rfl)
  have h23 := h22.tail
  have e9 : SenOne W 9 := laid_sen1 9 h23 rfl (by kernel_rfl) (by kernel_rfl)
  have h24 := h23.tail
  have e10 : SenOne W 10 := laid_sen1 10 h24 rfl (by kernel_rfl) (by kernel_rfl)
  have h25 := h24.tail
  have e11 : SenOne W 11 := laid_sen1 11 h25 rfl (by kernel_rfl) (by kernel_rfl)
  have h26 := h25.tail
  have e13 : SenOne W 13 := laid_sen1 13 h26 rfl (by kernel_rfl) (by kernel_rfl)
  exact sen_of fun k hk => match k, hk with
    | 0, _ => e0
    | 1, _ => e1
    | 2, _ => e2
    | 3, _ => e3
    | 4, _ => e4
    | 5, _ => e5
    | 6, _ => e6
    | 7, _ => e7
    | 8, _ => e8
    | 9, _ => e9
    | 10, _ => e10
    | 11, _ => e11
    | 12, _ => e12
    | 13, _ => e13
    | 14, _ => e14
    | 15, _ => e15
    | k + 16, hk => by omega
end Go.Proofs.YtgaaehpmbkjhlaaGreatDoor
