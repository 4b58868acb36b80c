/- impl.claimsOk takes fine claims. -/
import Derived.Test.YtgaaehpmbkjhlaaGreatDoorWShort
import Derived.Handy
namespace Go.Proofs.YtgaaehpmbkjhlaaGreatDoor
open Go Go.RowKit

/-- Within the thin package's bounds, as a leaf. -/
structure FineN (v : V) : Prop where
  k1 : 1 ≤ v.k
  k2 : v.k ≤ 5
  k3 : (v.k == 3) = false
  t : v.t.size ≤ 4096
  n1 : -1000000000000000 ≤ v.n
  n2 : v.n ≤ 1000000000000000
structure FineLeaf (v : V) : Prop extends FineN v where
  l : v.ln = 0

theorem short_one (b : Nat) (s : ByteArray) (w : World) (hb : w.cell? ⟨b, 0, none⟩ = some (.string s)) (hlt : b < w.heap.size) (h : s.size ≤ 4096) :
    Calls Tryz.prog 40 #[.slice (some ⟨b, 0, none⟩) 1 1] w fun e w' => e = .returned (.bool true) ∧ w = w' :=
  short_true _ 1 1 [s] w ⟨rfl, fun _ => ⟨b, 0, rfl, hlt, fun j hj => by
    have : j = 0 := by simpa using hj
    subst this
    exact hb⟩⟩ (by omega) (fun x hx => by simp at hx; subst hx; exact h)

theorem indexVals_none (a : Option Addr) (cap : Nat) (f : Value) (w : World) : Calls Tryz.prog 102 #[.slice a 0 cap, f] w fun e w' => e = .returned (.int .i64 (-1)) ∧ w = w' := by
  go_enter Tryz.func102, Tryz.ntmps102
  go_wp2
  refine wp_loop_rounds 1 ?_
  rw [rounds_succ]
  go_wp2
  go_ret
  exact ⟨rfl, rfl⟩

/-- What a call leaves: true, and what lay there. -/
def YesB (b : Bool) (w : World) (e : Ending) (w' : World) : Prop := e = .returned (.bool b) ∧ Below w.heap.size w w'

set_option maxHeartbeats 1000000 in
theorem valueOk_leaf (v : V) (d : Int) (w : World) (h : FineLeaf v) (h1 : 1 ≤ d) (h2 : d ≤ 6) : Calls Tryz.prog 41 #[v.agg, .int .i64 d] w (YesB true w) := by
  obtain ⟨k, t, n, la, ln, lc⟩ := v
  obtain ⟨⟨k1, k2, k3, ht, n1, n2⟩, hl⟩ := h
  simp only at k1 k2 k3 ht n1 n2 hl
  subst hl
  unfold V.agg
  have hd : (d == 0) = false := by simp; omega
  have HT := Lib.hid ht; clear ht
  go_enter Tryz.func41, Tryz.ntmps41
  go_wp2_with (first
    | (go_at_call 40; refine (short_one _ t _ (by simp [go_sem]) (by simp) HT.out).mono ?_; rintro e w' ⟨rfl, rfl⟩)
    | (go_at_call 46; refine (within_true n _ n1 n2).mono ?_; rintro e w' ⟨rfl, rfl⟩)
    | (go_at_call 102; refine (indexVals_none _ _ _ _).mono ?_; rintro e w' ⟨rfl, rfl⟩)
    | go_in)
  go_ret
  exact ⟨rfl, by go_grown⟩

theorem cell_lt {w : World} {b o : Nat} {v : Value} (h : w.cell? ⟨b, o, none⟩ = some v) : b < w.heap.size := by
  rcases Nat.lt_or_ge b w.heap.size with h1 | h1
  · exact h1
  · unfold World.cell? at h
    rw [Array.getElem?_eq_none h1] at h
    cases h

theorem valueOkFn (v : V) (db : Nat) (w : World) (h : FineLeaf v) (hc : w.cell? ⟨db, 0, none⟩ = some (.int .i64 6)) : Calls Tryz.prog 77 #[v.agg, .pointer (some ⟨db, 0, none⟩)] w (YesB false w) := by
  have hdb := cell_lt hc
  obtain ⟨k, t, n, la, ln, lc⟩ := v
  unfold V.agg
  have H := Lib.hid h; clear h
  go_enter Tryz.func77, Tryz.ntmps77
  go_wp2_with fail
  refine (valueOk_leaf ⟨k, t, n, la, ln, lc⟩ _ _ H.out (by omega) (by omega)).mono ?_
  rintro e w' ⟨rfl, hb⟩
  go_wp2
  go_ret
  exact ⟨rfl, (below1 _ _).trans (hb.mono (by simp))⟩

set_option maxHeartbeats 1000000 in
theorem indexVals (b o n cap db : Nat) (xs : List V) (w : World) (hn : xs.length = n) (hmax : n ≤ 9223372036854775807) (hc : ∀ j (h : j < xs.length), VAt w b (o + j * 4) xs[j]) (hf : ∀ x ∈ xs, FineLeaf x) (hd : w.cell? ⟨db, 0, none⟩ = some (.int .i64 6)) :
    Calls Tryz.prog 102 #[.slice (some ⟨b, o, none⟩) n cap, .func (.func 77) #[] #[.pointer (some ⟨db, 0, none⟩)]] w fun e w' => e = .returned (.int .i64 (-1)) ∧ Below w.heap.size w w' := by
  have HDB := cell_lt hd
  have HN := Lib.hid hn; clear hn
  have HC := Lib.hid hc; clear hc
  have HF := Lib.hid hf; clear hf
  have HD := Lib.hid hd; clear hd
  go_enter Tryz.func102, Tryz.ntmps102
  go_wp2
  go_loopw [8] (fun i wr => ∃ k : Nat, k ≤ n ∧ i = .int .i64 k ∧ Below w.heap.size w wr) (fun i _ => n - (intOf i).toNat)
  case atStart => exact ⟨0, Nat.zero_le _, rfl, Below.refl _ _⟩
  case round =>
    obtain ⟨k, hk, rfl, hb⟩ := hrel
    have HB := Lib.hid hb; clear hb
    by_cases hlt : k < n
    · have hk' : k < xs.length := by rw [HN.out]; exact hlt
      have hv := (HC.out k hk').below HB.out
      have hfx := HF.out _ (List.getElem_mem hk')
      obtain ⟨x, hx⟩ : ∃ x, x = xs[k] := ⟨_, rfl⟩
      rw [← hx] at hv hfx
      clear hx
      have hd' := (HB.out.cell (p := ⟨db, 0, none⟩) HDB).trans HD.out
      have HD' := Lib.hid hd'; clear hd'
      obtain ⟨xk, xt, xn, xa, xl, xc⟩ := x
      obtain ⟨v0, v1, v2, v3, vb⟩ := hv
      simp only at v0 v1 v2 v3
      have HFX := Lib.hid hfx; clear hfx
      go_wp2_with fail
      refine (valueOkFn ⟨xk, xt, xn, xa, xl, xc⟩ db _ HFX.out HD'.out).mono ?_
      rintro e w2 ⟨rfl, hb2⟩
      have HB2 := Lib.hid (HB.out.trans (hb2.mono HB.out.size)); clear hb2
      go_wp2
      exact ⟨⟨k + 1, by omega, by go_num, HB2.out⟩, by simp [intOf]; omega⟩
    · go_wp2
      go_ret
      exact ⟨rfl, HB.out⟩

/-- What a fine value is: within the bounds, its elements fine leaves. -/
structure FineV (v : V) (xs : List V) : Prop extends FineN v where
  l : v.ln ≤ 50
  xs : ∀ x ∈ xs, FineLeaf x

set_option maxHeartbeats 1000000 in
theorem valueOk_fine (v : V) (xs : List V) (w : World) (h : FineV v xs) (hl : VsAt w v.la v.ln xs) : Calls Tryz.prog 41 #[v.agg, .int .i64 6] w (YesB true w) := by
  by_cases h0 : v.ln = 0
  · exact valueOk_leaf v 6 w ⟨h.toFineN, h0⟩ (by omega) (by omega)
  obtain ⟨k, t, n, la, ln, lc⟩ := v
  obtain ⟨⟨k1, k2, k3, ht, n1, n2⟩, hl50, hxs⟩ := h
  simp only at k1 k2 k3 ht n1 n2 hl50 hl h0
  obtain ⟨hlen, _, hc0⟩ := hl
  obtain ⟨b, o, rfl, hc⟩ := hc0 h0
  clear hc0
  unfold V.agg
  have HT := Lib.hid ht; clear ht
  have HL := Lib.hid hlen; clear hlen
  have HC := Lib.hid hc; clear hc
  have HX := Lib.hid hxs; clear hxs
  go_enter Tryz.func41, Tryz.ntmps41
  go_wp2_with (first
    | (go_at_call 40; refine (short_one _ t _ (by simp [go_sem]) (by simp) HT.out).mono ?_; rintro e w' ⟨rfl, rfl⟩)
    | (go_at_call 46; refine (within_true n _ n1 n2).mono ?_; rintro e w' ⟨rfl, rfl⟩)
    | (go_at_call 76; go_in))
  refine (indexVals b o ln lc (w.heap.size + 1) xs _ HL.out (by omega) (fun j hj => (HC.out j hj).below (by go_grown)) HX.out (by simp [go_sem])).mono ?_
  rintro e w' ⟨rfl, hb⟩
  have HB := Lib.hid (show Below w.heap.size w w' from (show Below w.heap.size w _ from by go_grown).trans (hb.mono (by simp; omega))); clear hb
  go_wp2
  go_ret
  exact ⟨rfl, HB.out⟩

/-- A fine claim. -/
structure FineC (c : Cl) : Prop where
  name : c.name.size ≤ 4096
  v : FineV c.v c.xs

set_option maxHeartbeats 1000000 in
theorem claimOkFn (c : Cl) (w : World) (h : FineC c) (hl : VsAt w c.v.la c.v.ln c.xs) :
    Calls Tryz.prog 39 #[.agg #[.string c.name, .int .i64 c.v.k, .string c.v.t, .int .i64 c.v.n, .slice c.v.la c.v.ln c.v.lc]] w (YesB false w) := by
  obtain ⟨nm, ⟨k, t, n, la, ln, lc⟩, xs⟩ := c
  have H := Lib.hid h; clear h
  have HL := Lib.hid hl; clear hl
  go_enter Tryz.func39, Tryz.ntmps39
  go_wp2_with (go_at_call 40; refine (short_one _ nm _ (by simp [go_sem]) (by simp) H.out.name).mono ?_; rintro e w' ⟨rfl, rfl⟩)
  refine (valueOk_fine ⟨k, t, n, la, ln, lc⟩ xs _ H.out.v (HL.out.below (by go_grown))).mono ?_
  rintro e w' ⟨rfl, hb⟩
  have HB := Lib.hid (show Below w.heap.size w w' from (show Below w.heap.size w _ from by go_grown).trans (hb.mono (by simp; omega))); clear hb
  go_wp2
  go_ret
  exact ⟨rfl, HB.out⟩

theorem indexClaims_none (a : Option Addr) (cap : Nat) (f : Value) (w : World) : Calls Tryz.prog 72 #[.slice a 0 cap, f] w fun e w' => e = .returned (.int .i64 (-1)) ∧ w = w' := by
  go_enter Tryz.func72, Tryz.ntmps72
  go_wp2
  refine wp_loop_rounds 1 ?_
  rw [rounds_succ]
  go_wp2
  go_ret
  exact ⟨rfl, rfl⟩

set_option maxHeartbeats 1000000 in
theorem indexClaims (b o n cap : Nat) (cs : List Cl) (w : World) (hn : cs.length = n) (hmax : n ≤ 9223372036854775807) (hc : ∀ j (h : j < cs.length), ClAt w b (o + j * 5) cs[j]) (hf : ∀ c ∈ cs, FineC c) :
    Calls Tryz.prog 72 #[.slice (some ⟨b, o, none⟩) n cap, .func (.func 39) #[] #[]] w fun e w' => e = .returned (.int .i64 (-1)) ∧ Below w.heap.size w w' := by
  have HN := Lib.hid hn; clear hn
  have HC := Lib.hid hc; clear hc
  have HF := Lib.hid hf; clear hf
  go_enter Tryz.func72, Tryz.ntmps72
  go_wp2
  go_loopw [8] (fun i wr => ∃ k : Nat, k ≤ n ∧ i = .int .i64 k ∧ Below w.heap.size w wr) (fun i _ => n - (intOf i).toNat)
  case atStart => exact ⟨0, Nat.zero_le _, rfl, Below.refl _ _⟩
  case round =>
    obtain ⟨k, hk, rfl, hb⟩ := hrel
    have HB := Lib.hid hb; clear hb
    by_cases hlt : k < n
    · have hk' : k < cs.length := by rw [HN.out]; exact hlt
      have hv := (HC.out k hk').below HB.out
      have hfx := HF.out _ (List.getElem_mem hk')
      obtain ⟨x, hx⟩ : ∃ x, x = cs[k] := ⟨_, rfl⟩
      rw [← hx] at hv hfx
      clear hx
      obtain ⟨nm, ⟨xk, xt, xn, xa, xl, xc⟩, xs⟩ := x
      obtain ⟨v0, v1, v2, v3, v4, vb, vf, vn, vl⟩ := hv
      simp only at v0 v1 v2 v3 v4
      have HFX := Lib.hid hfx; clear hfx
      have HVL := Lib.hid vl; clear vl
      clear vf vn
      go_wp2_with fail
      refine (claimOkFn ⟨nm, ⟨xk, xt, xn, xa, xl, xc⟩, xs⟩ _ HFX.out HVL.out).mono ?_
      rintro e w2 ⟨rfl, hb2⟩
      have HB2 := Lib.hid (HB.out.trans (hb2.mono HB.out.size)); clear hb2
      go_wp2
      exact ⟨⟨k + 1, by omega, by go_num, HB2.out⟩, by simp [intOf]; omega⟩
    · go_wp2
      go_ret
      exact ⟨rfl, HB.out⟩

/-- claimsOk takes fine claims, fifty at most. -/
theorem claimsOk_true (a : Option Addr) (n cap : Nat) (cs : List Cl) (w : World) (hm : CsAt w a n cs) (h50 : n ≤ 50) (hf : ∀ c ∈ cs, FineC c) :
    Calls Tryz.prog 17 #[.slice a n cap] w (YesB true w) := by
  obtain ⟨hl, _, hs⟩ := hm
  have hI : Calls Tryz.prog 72 #[.slice a n cap, .func (.func 39) #[] #[]] w fun e w' => e = .returned (.int .i64 (-1)) ∧ Below w.heap.size w w' := by
    by_cases h0 : n = 0
    · subst h0
      exact (indexClaims_none a cap _ w).mono fun e w' ⟨he, hw⟩ => ⟨he, by rw [← hw]; exact Below.refl _ _⟩
    · obtain ⟨b, o, rfl, hc⟩ := hs h0
      exact indexClaims b o n cap cs w hl (by omega) hc hf
  have HI := Lib.hid hI; clear hI hs hl hf
  go_enter Tryz.func17, Tryz.ntmps17
  go_wp2_with (first | (go_at_call 72; refine HI.out.mono ?_; rintro e w' ⟨rfl, hb⟩) | go_in)
  have HB := Lib.hid hb; clear hb
  go_wp2
  go_ret
  exact ⟨rfl, HB.out⟩
end Go.Proofs.YtgaaehpmbkjhlaaGreatDoor
