/- impl.valueOf gives a value for the package. -/
import Derived.Test.YtgaaehpmbkjhlaaGreatDoorWOk
namespace Go.Proofs.YtgaaehpmbkjhlaaGreatDoor
open Go Go.RowKit

/-- A call gives u; what lay there is as it was. -/
def Gives (u : Value) (w : World) (e : Ending) (w' : World) : Prop := e = .returned u ∧ Below w.heap.size w w'

/-- A leaf for the package. -/
def anyLeaf (v : V) : Value :=
  if v.k = 1 then .iface 9 (.string v.t) else if v.k = 2 then .iface 121 (.float .f64 (floatOfInt .f64 v.n)) else .iface 4 (.bool (v.n != 0))

set_option maxHeartbeats 400000 in
theorem valueOf_leaf (v : V) (w : World) (h : v.k = 1 ∨ v.k = 2 ∨ v.k = 5) : Calls Tryz.prog 42 #[v.agg] w (Gives (anyLeaf v) w) := by
  obtain ⟨k, t, n, la, ln, lc⟩ := v
  simp only at h
  unfold V.agg
  rcases h with rfl | rfl | rfl
  · go_enter Tryz.func42, Tryz.ntmps42
    go_wp2
    go_ret
    exact ⟨rfl, by go_grown⟩
  · go_enter Tryz.func42, Tryz.ntmps42
    go_wp2
    go_ret
    exact ⟨rfl, by go_grown⟩
  · go_enter Tryz.func42, Tryz.ntmps42
    go_wp2
    go_ret
    exact ⟨rfl, by go_grown⟩

theorem Tryz.info20 : (Tryz.prog.info? 20).map (fun i => (i.zero, i.size, i.bytes)) = some (some .nilIface, 1, 16) := by kernel_rfl

theorem owns_below {w w' : World} {base : Nat} {e : TypeId} {size : Nat} {v : Value} {n : Nat} {xs : List Value} (h : w.ownsRow base e size v n xs) (hb : Below w.heap.size w w') : w'.ownsRow base e size v n xs := by
  refine ⟨h.1, ?_⟩
  rcases h.2 with h0 | ⟨g, cap, cur, hv, hg, hh, rest⟩
  · exact .inl h0
  · exact .inr ⟨g, cap, cur, hv, hg, (hb.block g (Array.getElem?_eq_some_iff.1 hh).1).trans hh, rest⟩

/-- A list for the package, in memory of its own. -/
def GivesList (us : List Value) (w : World) (e : Ending) (w' : World) : Prop :=
  ∃ sl, e = .returned (.iface 123 sl) ∧ w'.ownsRow w.heap.size 20 1 sl us.length us ∧ Below w.heap.size w w'

theorem anyLeaf_form (v : V) : ∃ T y, anyLeaf v = .iface T y := by
  unfold anyLeaf
  split
  · exact ⟨_, _, rfl⟩
  · split <;> exact ⟨_, _, rfl⟩
theorem anyLeaf_one (v : V) : (anyLeaf v).oneCell' = true := by
  unfold anyLeaf
  split
  · rfl
  · split <;> rfl

set_option maxRecDepth 100000 in
set_option maxHeartbeats 1000000 in
theorem valueOf_list (t : ByteArray) (n : Int) (b o ln lc : Nat) (xs : List V) (w : World) (hn : xs.length = ln) (hmax : ln ≤ 1000) (hc : ∀ j (h : j < xs.length), VAt w b (o + j * 4) xs[j])
    (hk : ∀ x ∈ xs, x.k = 1 ∨ x.k = 2 ∨ x.k = 5) :
    Calls Tryz.prog 42 #[.agg #[.int .i64 4, .string t, .int .i64 n, .slice (some ⟨b, o, none⟩) ln lc]] w (GivesList (xs.map anyLeaf) w) := by
  obtain ⟨i0, hi, hz0, hz1, hz2⟩ := info_parts Tryz.info20
  have HN := Lib.hid hn; clear hn
  have HC := Lib.hid hc; clear hc
  have HK := Lib.hid hk; clear hk
  go_enter Tryz.func42, Tryz.ntmps42
  go_wp2
  go_loopw [3, 30] (fun l i wr => ∃ k : Nat, k ≤ ln ∧ i = .int .i64 k ∧ wr.ownsRow w.heap.size 20 1 l k ((xs.map anyLeaf).take k) ∧ Below w.heap.size w wr) (fun _ i _ => ln - (intOf i).toNat)
  case atStart =>
    refine ⟨0, Nat.zero_le _, rfl, ?_, by go_grown⟩
    simpa using World.ownsRow_made (base := w.heap.size) (e := 20) (size := 1) (w.alloc (.cells #[.int .i64 4, .string t, .int .i64 n, .slice (some ⟨b, o, none⟩) ln lc] 27)) #[] 0 (by simp) (by simp) rfl
  case round =>
    obtain ⟨k, hk, rfl, hown, hb⟩ := hrel
    have HB := Lib.hid hb; clear hb
    by_cases hlt : k < ln
    · have hk' : k < xs.length := by rw [HN.out]; exact hlt
      have hv := (HC.out k hk').below HB.out
      have hfx := HK.out _ (List.getElem_mem hk')
      have htake : (xs.map anyLeaf).take (k + 1) = (xs.map anyLeaf).take k ++ [anyLeaf xs[k]] := by rw [List.take_succ_eq_append_getElem (by simpa using hk')]; simp
      obtain ⟨x, hx⟩ : ∃ x, x = xs[k] := ⟨_, rfl⟩
      rw [← hx] at hv hfx htake
      clear hx
      have HT := Lib.hid htake; clear htake
      obtain ⟨xk, xt, xn, xa, xl, xc⟩ := x
      obtain ⟨v0, v1, v2, v3, vb⟩ := hv
      simp only at v0 v1 v2 v3
      have HFX := Lib.hid hfx; clear hfx
      have HO := Lib.hid hown; clear hown
      go_wp2_with fail
      refine (valueOf_leaf ⟨xk, xt, xn, xa, xl, xc⟩ _ HFX.out).mono ?_
      rintro e w2 ⟨rfl, hb2⟩
      have hwr : Below wr.heap.size wr w2 := (below1 _ _).trans (hb2.mono (by simp))
      have hown2 := owns_below HO.out hwr
      have HB2 := Lib.hid (HB.out.trans (hwr.mono HB.out.size)); clear hb2 hwr
      have hsz2 : w.heap.size ≤ w2.heap.size := HB2.out.size
      obtain ⟨T, y, hu⟩ := anyLeaf_form ⟨xk, xt, xn, xa, xl, xc⟩
      rw [hu] at HT ⊢
      clear hu
      have HO2 := Lib.hid hown2; clear hown2
      go_wp2_with (at_builtin; refine wpList_append_own _ rfl _ _ 123 rfl w.heap.size 20 i0 .nilIface 1 16 Tryz.underlying123 hi hz0 hz1 hz2 rfl (by decide) _ _ _ rfl (HO2.out.alloc _) ⟨w2.heap.size, 0, none⟩ 1 1 [.iface T y] rfl rfl (cell_one_new _ _ _) (fun u hu => by simp at hu; subst hu; rfl) (by unfold maxLen; omega) (by omega) (by simp; omega) ?_; intro v' w3 hown3 hg3 hnil3)
      refine ⟨⟨k + 1, by omega, by go_num, by rw [HT.out]; exact hown3, (HB2.out.alloc HB2.out.size _).grown hg3 (by simp; omega) (fun g hg => (HO2.out.lt g hg).1)⟩, by simp [intOf]; omega⟩
    · obtain rfl : k = ln := by omega
      go_wp2
      go_ret
      refine ⟨_, rfl, ?_, HB.out⟩
      have hl : (xs.map anyLeaf).length = k := by rw [List.length_map]; exact HN.out
      rw [List.take_of_length_le (by omega)] at hown
      rw [hl]
      exact hown
end Go.Proofs.YtgaaehpmbkjhlaaGreatDoor
