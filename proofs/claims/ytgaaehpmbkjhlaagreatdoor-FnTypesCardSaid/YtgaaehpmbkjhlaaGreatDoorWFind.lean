/- spec.find and spec.Audience. -/
import Derived.Test.YtgaaehpmbkjhlaaGreatDoorWAudOf
namespace Go.Proofs.YtgaaehpmbkjhlaaGreatDoor
open Go Go.RowKit

def zeroV : V := ⟨0, ByteArray.empty, 0, none, 0, 0⟩

/-- What find gives. -/
def GivesFound (v : V) (b : Bool) (w : World) (e : Ending) (w' : World) : Prop := e = .returned (.tuple #[v.agg, .bool b]) ∧ Below w.heap.size w w'

set_option maxRecDepth 100000 in
set_option maxHeartbeats 1000000 in
theorem find_no (b o n cap : Nat) (cs : List Cl) (w : World) (s : ByteArray) (hn : cs.length = n) (hcap : n ≤ 9223372036854775807) (hc : ∀ j (h : j < cs.length), ClAt w b (o + j * 5) cs[j]) (hno : ∀ j (h : j < cs.length), cs[j].name ≠ s) :
    Calls Tryz.prog 27 #[.slice (some ⟨b, o, none⟩) n cap, .string s] w (GivesFound zeroV false w) := by
  have HN := Lib.hid hn; clear hn
  have HC := Lib.hid hc; clear hc
  have HNO := Lib.hid hno; clear hno
  go_enter Tryz.func27, Tryz.ntmps27
  go_wp2
  go_loop [6] (fun i => ∃ k : Nat, k ≤ n ∧ i = .int .i64 ((k : Int) - 1)) (fun i => (intOf i + 1).toNat)
  case atStart => exact ⟨n, Nat.le_refl _, rfl⟩
  case round =>
    obtain ⟨k, hk, rfl⟩ := hrel
    by_cases hlt : 0 < k
    · obtain ⟨m, rfl⟩ : ∃ m, k = m + 1 := ⟨k - 1, by omega⟩
      have hk' : m < cs.length := by rw [HN.out]; omega
      have hv := HC.out m hk'
      have hne := HNO.out m hk'
      obtain ⟨x, hx⟩ : ∃ x, x = cs[m] := ⟨_, rfl⟩
      rw [← hx] at hv hne
      clear hx
      obtain ⟨nm, ⟨xk, xt, xn, xa, xl, xc⟩, xs⟩ := x
      obtain ⟨v0, v1, v2, v3, v4, vb, vf, vn, vl⟩ := hv
      simp only at v0 v1 v2 v3 v4 hne
      clear vf vn vl
      have hne' : (nm.toList == s.toList) = false := by rw [← beq_toListBytes]; exact beqB_ne hne
      have HNE := Lib.hid hne; clear hne
      rw [show (((m + 1 : Nat) : Int) - 1) = (m : Int) by omega]
      go_wp2
      exact ⟨⟨m, by omega, rfl⟩, by simp [intOf]⟩
    · go_wp2
      go_returns
      exact ⟨rfl, by go_grown⟩

set_option maxRecDepth 100000 in
set_option maxHeartbeats 1000000 in
theorem find_yes (b o n cap : Nat) (cs : List Cl) (w : World) (s : ByteArray) (hn : cs.length = n) (hcap : n ≤ 9223372036854775807) (hc : ∀ j (h : j < cs.length), ClAt w b (o + j * 5) cs[j]) (i0 : Nat) (hi : i0 < cs.length) (hs : cs[i0].name = s)
    (hno : ∀ j (h : j < cs.length), j ≠ i0 → cs[j].name ≠ s) :
    Calls Tryz.prog 27 #[.slice (some ⟨b, o, none⟩) n cap, .string s] w (GivesFound cs[i0].v true w) := by
  have hi' : i0 < n := by omega
  have HN := Lib.hid hn; clear hn
  have HC := Lib.hid hc; clear hc
  have HNO := Lib.hid hno; clear hno
  have HS := Lib.hid hs; clear hs
  obtain ⟨R, hR⟩ : ∃ R, R = cs[i0].v := ⟨_, rfl⟩
  rw [← hR]
  have HR := Lib.hid hR; clear hR
  go_enter Tryz.func27, Tryz.ntmps27
  go_wp2
  go_loop [6] (fun i => ∃ k : Nat, k ≤ n ∧ i0 < k ∧ i = .int .i64 ((k : Int) - 1)) (fun i => (intOf i + 1).toNat)
  case atStart => exact ⟨n, Nat.le_refl _, hi', rfl⟩
  case round =>
    obtain ⟨k, hk, hik, rfl⟩ := hrel
    obtain ⟨m, rfl⟩ : ∃ m, k = m + 1 := ⟨k - 1, by omega⟩
    have hk' : m < cs.length := by rw [HN.out]; omega
    have hv := HC.out m hk'
    rw [show (((m + 1 : Nat) : Int) - 1) = (m : Int) by omega]
    by_cases hm : m = i0
    · subst hm
      have hne := HS.out
      have hrx := HR.out
      obtain ⟨x, hx⟩ : ∃ x, x = cs[m] := ⟨_, rfl⟩
      rw [← hx] at hv hne hrx
      clear hx HR
      obtain ⟨nm, ⟨xk, xt, xn, xa, xl, xc⟩, xs⟩ := x
      obtain ⟨v0, v1, v2, v3, v4, vb, vf, vn, vl⟩ := hv
      simp only at v0 v1 v2 v3 v4 hne hrx
      clear vf vn vl
      have HRX := Lib.hid hrx; clear hrx
      subst hne
      go_wp2
      go_returns
      exact ⟨by rw [HRX.out]; rfl, by go_grown⟩
    · have hne := HNO.out m hk' hm
      obtain ⟨x, hx⟩ : ∃ x, x = cs[m] := ⟨_, rfl⟩
      rw [← hx] at hv hne
      clear hx
      obtain ⟨nm, ⟨xk, xt, xn, xa, xl, xc⟩, xs⟩ := x
      obtain ⟨v0, v1, v2, v3, v4, vb, vf, vn, vl⟩ := hv
      simp only at v0 v1 v2 v3 v4 hne
      clear vf vn vl
      have hne' : (nm.toList == s.toList) = false := by rw [← beq_toListBytes]; exact beqB_ne hne
      have HNE := Lib.hid hne; clear hne
      go_wp2
      exact ⟨⟨m, by omega, by omega, rfl⟩, by simp [intOf]⟩

theorem find_none (a : Option Addr) (cap : Nat) (s : ByteArray) (w : World) : Calls Tryz.prog 27 #[.slice a 0 cap, .string s] w (GivesFound zeroV false w) := by
  go_enter Tryz.func27, Tryz.ntmps27
  go_wp2
  refine wp_loop_rounds 1 ?_
  rw [rounds_succ]
  go_wp2
  go_returns
  exact ⟨rfl, by go_grown⟩

/-- Claims by their names, each once. -/
theorem findC_at {cs : List Cl} {s : ByteArray} {c : Cl} (h : findC cs s = some c) : ∃ i, ∃ h : i < cs.length, cs[i] = c ∧ cs[i].name = s := by
  unfold findC at h
  have h1 := List.find?_some h
  have h2 := List.mem_of_find?_eq_some h
  obtain ⟨i, hi, rfl⟩ := List.mem_iff_getElem.1 h2
  exact ⟨i, hi, rfl, (eq_of_beqB h1).symm⟩
theorem findC_no {cs : List Cl} {s : ByteArray} (h : findC cs s = none) : ∀ j (h : j < cs.length), cs[j].name ≠ s := by
  unfold findC at h
  rw [List.find?_eq_none] at h
  intro j hj e
  have := h _ (List.getElem_mem hj)
  rw [e] at this
  exact this (beqB_self s)

/-- find, where each name stands once. -/
theorem find_any_no (a : Option Addr) (n cap : Nat) (cs : List Cl) (s : ByteArray) (w : World) (hm : CsAt w a n cs) (hf : findC cs s = none) :
    Calls Tryz.prog 27 #[.slice a n cap, .string s] w (GivesFound zeroV false w) := by
  obtain ⟨hl, hx, hs⟩ := hm
  by_cases h0 : n = 0
  · subst h0; exact find_none a cap s w
  · obtain ⟨b, o, rfl, hc⟩ := hs h0
    exact find_no b o n cap cs w s hl (by unfold maxLen at hx; omega) hc (findC_no hf)
theorem find_any_yes (a : Option Addr) (n cap : Nat) (cs : List Cl) (s : ByteArray) (w : World) (c : Cl) (hm : CsAt w a n cs) (hd : ∀ i j (h : i < cs.length) (h' : j < cs.length), j < i → cs[i].name ≠ cs[j].name) (hf : findC cs s = some c) :
    Calls Tryz.prog 27 #[.slice a n cap, .string s] w (GivesFound c.v true w) := by
  obtain ⟨hl, hx, hs⟩ := hm
  obtain ⟨i, hi, rfl, hn⟩ := findC_at hf
  obtain ⟨b, o, rfl, hc⟩ := hs (by omega)
  refine find_yes b o n cap cs w s hl (by unfold maxLen at hx; omega) hc i hi hn fun j hj hji e => ?_
  rcases Nat.lt_or_gt_of_ne hji with h1 | h1
  · exact hd i j hi hj h1 (by rw [hn, e])
  · exact hd j i hj hi h1 (by rw [hn, e])
end Go.Proofs.YtgaaehpmbkjhlaaGreatDoor
