/- impl.claimsOf makes the map of the claims. -/
import Derived.Test.YtgaaehpmbkjhlaaGreatDoorMapLaw
import Derived.Deep.RegionHeld3
import Derived.Deep.DrawnRows
namespace Go.Proofs.YtgaaehpmbkjhlaaGreatDoor
open Go Go.RowKit

/-- The kinds that stand for a value of the package. -/
def KindC (c : Cl) : Prop := (c.v.k = 1 ∨ c.v.k = 2 ∨ c.v.k = 5) ∨ (c.v.k = 4 ∧ 1 ≤ c.v.ln ∧ c.v.ln ≤ 50 ∧ ∀ x ∈ c.xs, x.k = 1 ∨ x.k = 2 ∨ x.k = 5)

def GivesAny (c : Cl) (w : World) (e : Ending) (w' : World) : Prop := ∃ u, e = .returned u ∧ AnyAt w' c u ∧ Below w.heap.size w w'

theorem owns_base {w : World} {base e size n : Nat} {v : Value} {xs : List Value} (h : w.ownsRow base e size v n xs) : w.ownsRow 0 e size v n xs := by
  refine ⟨h.1, ?_⟩
  rcases h.2 with h0 | ⟨g, cap, cur, hv, hg, rest⟩
  · exact .inl h0
  · exact .inr ⟨g, cap, cur, hv, Nat.zero_le _, rest⟩

theorem valueOf_any (c : Cl) (w : World) (hk : KindC c) (hl : VsAt w c.v.la c.v.ln c.xs) : Calls Tryz.prog 42 #[c.v.agg] w (GivesAny c w) := by
  rcases hk with hk | ⟨h4, h1, h50, hx⟩
  · refine (valueOf_leaf c.v w hk).mono fun e w' ⟨he, hb⟩ => ⟨_, he, .inr ⟨?_, rfl⟩, hb⟩
    rcases hk with h | h | h <;> rw [h] <;> decide
  · obtain ⟨nm, ⟨k, t, n, la, ln, lc⟩, xs⟩ := c
    simp only at h4 h1 h50 hl hx
    subst h4
    obtain ⟨hlen, _, hc⟩ := hl
    obtain ⟨b, o, rfl, hcc⟩ := hc (by omega)
    refine (valueOf_list t n b o ln lc xs w hlen (by omega) hcc hx).mono fun e w' ⟨sl, he, ho, hb⟩ => ⟨_, he, .inl ⟨rfl, sl, rfl, ?_⟩, hb⟩
    have := owns_base ho
    simpa using this

def GivesMap (cs : List Cl) (w : World) (e : Ending) (w' : World) : Prop := ∃ bm, e = .returned (.map (some bm)) ∧ MapAt w' bm cs ∧ Below w.heap.size w w'

theorem claimsOf_none (a : Option Addr) (cap : Nat) (w : World) : Calls Tryz.prog 18 #[.slice a 0 cap] w (GivesMap [] w) := by
  have hmm := @run_makeMap Tryz.prog
  go_enter Tryz.func18, Tryz.ntmps18
  go_wp2
  refine wp_loop_rounds 1 ?_
  rw [rounds_succ]
  go_wp2
  go_ret
  exact ⟨_, rfl, ⟨#[], 0, heap_alloc_new _ _, trivial⟩, by go_grown⟩

set_option maxRecDepth 100000 in
set_option maxHeartbeats 1000000 in
theorem claimsOf_some (b o n cap : Nat) (cs : List Cl) (w : World) (hn : cs.length = n) (hmax : n ≤ 9223372036854775807) (hc : ∀ j (h : j < cs.length), ClAt w b (o + j * 5) cs[j])
    (hk : ∀ c ∈ cs, KindC c) (hd : ∀ i j (h : i < cs.length) (h' : j < cs.length), j < i → cs[i].name ≠ cs[j].name) :
    Calls Tryz.prog 18 #[.slice (some ⟨b, o, none⟩) n cap] w (GivesMap cs w) := by
  have hmm := @run_makeMap Tryz.prog
  have HN := Lib.hid hn; clear hn
  have HC := Lib.hid hc; clear hc
  have HK := Lib.hid hk; clear hk
  have HD := Lib.hid hd; clear hd
  go_enter Tryz.func18, Tryz.ntmps18
  go_wp2
  go_loopw [9] (fun i wr => ∃ k : Nat, k ≤ n ∧ i = .int .i64 k ∧ MapAt wr w.heap.size (cs.take k) ∧ Below w.heap.size w wr) (fun i _ => n - (intOf i).toNat)
  case atStart => exact ⟨0, Nat.zero_le _, rfl, ⟨#[], 0, heap_alloc_new _ _, trivial⟩, by go_grown⟩
  case round =>
    obtain ⟨k, hk, rfl, hmap, hb⟩ := hrel
    have HB := Lib.hid hb; clear hb
    have HM := Lib.hid hmap; clear hmap
    by_cases hlt : k < n
    · have hk' : k < cs.length := by rw [HN.out]; exact hlt
      have hv := (HC.out k hk').below HB.out
      have hkc := HK.out _ (List.getElem_mem hk')
      have htake : cs.take (k + 1) = cs.take k ++ [cs[k]] := List.take_succ_eq_append_getElem hk'
      have hfresh : findC (cs.take k) cs[k].name = none := by
        unfold findC
        rw [List.find?_eq_none]
        intro x hx
        obtain ⟨j, hj, rfl⟩ := List.mem_iff_getElem.1 hx
        rw [List.length_take] at hj
        rw [List.getElem_take]
        have := HD.out k j hk' (by omega) (by omega)
        exact fun h => this (eq_of_beqB h)
      obtain ⟨x, hx⟩ : ∃ x, x = cs[k] := ⟨_, rfl⟩
      rw [← hx] at hv hkc htake hfresh
      clear hx
      have HT := Lib.hid htake; clear htake
      have HFR := Lib.hid hfresh; clear hfresh
      have HKC := Lib.hid hkc; clear hkc
      obtain ⟨nm, ⟨xk, xt, xn, xa, xl, xc⟩, xs⟩ := x
      obtain ⟨v0, v1, v2, v3, v4, vb, vf, vn, vl⟩ := hv
      simp only at v0 v1 v2 v3 v4
      have HVL := Lib.hid vl; clear vl
      clear vf vn
      go_wp2
      have hW1 := below1 wr (.cells #[.string nm, .int .i64 xk, .string xt, .int .i64 xn, .slice xa xl xc] 29)
      have hWs : (wr.alloc (.cells #[.string nm, .int .i64 xk, .string xt, .int .i64 xn, .slice xa xl xc] 29)).heap.size = wr.heap.size + 1 := by simp
      have f0 : (wr.alloc (.cells #[.string nm, .int .i64 xk, .string xt, .int .i64 xn, .slice xa xl xc] 29)).cell? ⟨wr.heap.size, 0, none⟩ = some (.string nm) := by simp [go_sem]
      have f1 : (wr.alloc (.cells #[.string nm, .int .i64 xk, .string xt, .int .i64 xn, .slice xa xl xc] 29)).cell? ⟨wr.heap.size, 1, none⟩ = some (.int .i64 xk) := by simp [go_sem]
      have f2 : (wr.alloc (.cells #[.string nm, .int .i64 xk, .string xt, .int .i64 xn, .slice xa xl xc] 29)).cell? ⟨wr.heap.size, 2, none⟩ = some (.string xt) := by simp [go_sem]
      have f3 : (wr.alloc (.cells #[.string nm, .int .i64 xk, .string xt, .int .i64 xn, .slice xa xl xc] 29)).cell? ⟨wr.heap.size, 3, none⟩ = some (.int .i64 xn) := by simp [go_sem]
      have f4 : (wr.alloc (.cells #[.string nm, .int .i64 xk, .string xt, .int .i64 xn, .slice xa xl xc] 29)).cell? ⟨wr.heap.size, 4, none⟩ = some (.slice xa xl xc) := by simp [go_sem]
      generalize wr.alloc (.cells #[.string nm, .int .i64 xk, .string xt, .int .i64 xn, .slice xa xl xc] 29) = W1 at hW1 hWs f0 f1 f2 f3 f4 ⊢
      have HVL1 := Lib.hid (HVL.out.below hW1)
      have HM1 := Lib.hid (HM.out.below hW1)
      have HW1 := Lib.hid hW1; clear hW1
      have hlt1 : wr.heap.size < W1.heap.size := by omega
      have hbm : wr.heap.size ≠ w.heap.size := by have := HM.out.lt; omega
      clear hWs v0 v1 v2 v3 v4
      go_region_held3 (fun w' => w'.cell? ⟨wr.heap.size, 0, none⟩ = some (.string nm) ∧ w'.cell? ⟨wr.heap.size, 1, none⟩ = some (.int .i64 xk) ∧ w'.cell? ⟨wr.heap.size, 2, none⟩ = some (.string xt) ∧ w'.cell? ⟨wr.heap.size, 3, none⟩ = some (.int .i64 xn) ∧ w'.cell? ⟨wr.heap.size, 4, none⟩ = some (.slice xa xl xc))
        (first
          | go_keep
          | exact ⟨(hb2.cell (p := ⟨wr.heap.size, 0, none⟩) (by simp; omega)).trans f0, (hb2.cell (p := ⟨wr.heap.size, 1, none⟩) (by simp; omega)).trans f1, (hb2.cell (p := ⟨wr.heap.size, 2, none⟩) (by simp; omega)).trans f2, (hb2.cell (p := ⟨wr.heap.size, 3, none⟩) (by simp; omega)).trans f3, (hb2.cell (p := ⟨wr.heap.size, 4, none⟩) (by simp; omega)).trans f4⟩
          | exact ⟨(putNew_cell hbm).trans ((hb2.cell (p := ⟨wr.heap.size, 0, none⟩) (by simp; omega)).trans f0), (putNew_cell hbm).trans ((hb2.cell (p := ⟨wr.heap.size, 1, none⟩) (by simp; omega)).trans f1), (putNew_cell hbm).trans ((hb2.cell (p := ⟨wr.heap.size, 2, none⟩) (by simp; omega)).trans f2), (putNew_cell hbm).trans ((hb2.cell (p := ⟨wr.heap.size, 3, none⟩) (by simp; omega)).trans f3), (putNew_cell hbm).trans ((hb2.cell (p := ⟨wr.heap.size, 4, none⟩) (by simp; omega)).trans f4)⟩)
        (first
          | (go_at_call 42; refine (valueOf_any ⟨nm, ⟨xk, xt, xn, xa, xl, xc⟩, xs⟩ _ HKC.out ?_).mono ?_; (exact HVL1.out.below ((Below.refl _ _).drew)); rintro e w2 ⟨u, rfl, hu, hb2⟩; obtain ⟨es, clock, he1, he2⟩ := (HM1.out.below ((Below.refl _ _).drew)).below hb2; have hst := run_store_new he1 he2 nm u HFR.out))
      go_wp2
      have hBW := HB.out.trans ((HW1.out.mono HB.out.size).trans ((Below.refl _ W1).drew.trans (hb2.mono (by have := HB.out.size; simp; omega))))
      refine ⟨⟨k + 1, by omega, by go_num, ?_, putNew_below hBW (Nat.le_refl _)⟩, by simp [intOf]; omega⟩
      rw [HT.out]
      exact putNew_map he1 he2 hu
    · obtain rfl : k = n := by omega
      go_wp2
      go_ret
      have hl := HN.out
      have hm := HM.out
      rw [List.take_of_length_le (by omega)] at hm
      exact ⟨_, rfl, hm, HB.out⟩

/-- claimsOf makes the map of the claims. -/
theorem claimsOf_any (a : Option Addr) (n cap : Nat) (cs : List Cl) (w : World) (hm : CsAt w a n cs) (hk : ∀ c ∈ cs, KindC c)
    (hd : ∀ i j (h : i < cs.length) (h' : j < cs.length), j < i → cs[i].name ≠ cs[j].name) : Calls Tryz.prog 18 #[.slice a n cap] w (GivesMap cs w) := by
  obtain ⟨hl, hx, hs⟩ := hm
  by_cases h0 : n = 0
  · subst h0
    obtain rfl := List.eq_nil_of_length_eq_zero hl
    exact claimsOf_none a cap w
  · obtain ⟨b, o, rfl, hc⟩ := hs h0
    exact claimsOf_some b o n cap cs w hl (by unfold maxLen at hx; omega) hc hk hd
end Go.Proofs.YtgaaehpmbkjhlaaGreatDoor
