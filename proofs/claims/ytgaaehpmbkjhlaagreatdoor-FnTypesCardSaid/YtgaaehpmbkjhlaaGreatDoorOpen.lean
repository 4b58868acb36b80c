/- How the claims that come in read: from the row's reading to the memory words of the walks. No conditions. -/
import Derived.Test.YtgaaehpmbkjhlaaGreatDoorMem
import Derived.Test.YtgaaehpmbkjhlaaGreatDoorWShort
import Derived.ProofKit
import Derived.Deep.Slices
import Derived.OpenVars
namespace Go.Proofs.YtgaaehpmbkjhlaaGreatDoor
open Go Go.RowKit Go.ChangeShapes Go.WideShapes Go.Deep

theorem cells29 : Tryz.prog.cellsOf 29 = 5 := by kernel_rfl
theorem cells27 : Tryz.prog.cellsOf 27 = 4 := by kernel_rfl
theorem cells25 : Tryz.prog.cellsOf 25 = 1 := by kernel_rfl
theorem cells9 : Tryz.prog.cellsOf 9 = 1 := by kernel_rfl
theorem cells3 : Tryz.prog.cellsOf 3 = 1 := by kernel_rfl
theorem cells2 : Tryz.prog.cellsOf 2 = 1 := by kernel_rfl

theorem i64_bounds {n : Int} (h : (Lit.int .i64 n).wf = true) : -9223372036854775808 ≤ n ∧ n ≤ 9223372036854775807 := by
  simpa [Lit.wf, IntKind.min, IntKind.max, IntKind.signed, IntKind.bits] using h

theorem cell_lt' {w : World} {a : Addr} {v : Value} (h : w.cell? a = some v) : a.block < w.heap.size ∧ a.spot = none := by
  unfold World.cell? at h
  rcases Nat.lt_or_ge a.block w.heap.size with h1 | h1
  · refine ⟨h1, ?_⟩
    split at h
    · split at h
      · cases h
      · rename_i hs
        cases hh : a.spot with
        | none => rfl
        | some x => simp [hh] at hs
    · cases h
  · rw [Array.getElem?_eq_none h1] at h
    cases h

instance : Inhabited V := ⟨⟨0, ByteArray.empty, 0, none, 0, 0⟩⟩
instance : Inhabited Cl := ⟨⟨ByteArray.empty, default, []⟩⟩

theorem list2 {α : Type} {l : List α} (h : l.length = 2) : ∃ a b, l = [a, b] := by
  match l, h with
  | [a, b], _ => exact ⟨a, b, rfl⟩
theorem list4 {α : Type} {l : List α} (h : l.length = 4) : ∃ a b c d, l = [a, b, c, d] := by
  match l, h with
  | [a, b, c, d], _ => exact ⟨a, b, c, d, rfl⟩
theorem list5 {α : Type} {l : List α} (h : l.length = 5) : ∃ a b c d e, l = [a, b, c, d, e] := by
  match l, h with
  | [a, b, c, d, e], _ => exact ⟨a, b, c, d, e, rfl⟩

section
variable {H : Type} {enc : TypeId × Value → H} {w : World} {spare : Nat → Bool} {held : Bool}

/-- A value of the claims, out of its four cells. -/
theorem open_val {fuel : Nat} {cs : List Value} {x : DataW H × List MemPlace} (h : DataW.trod enc Tryz.prog w 0 spare held fuel 27 cs = some x) :
    ∃ (v : V) (n : Nat) (y : DataW H × List MemPlace), cs = [.int .i64 v.k, .string v.t, .int .i64 v.n, .slice v.la v.ln v.lc] ∧ v.t.size ≤ maxLen ∧ (-9223372036854775808 ≤ v.n ∧ v.n ≤ 9223372036854775807) ∧ (-9223372036854775808 ≤ v.k ∧ v.k ≤ 9223372036854775807) ∧ v.ln ≤ maxLen ∧
      DataW.trod enc Tryz.prog w 0 spare held n 25 [.slice v.la v.ln v.lc] = some y := by
  obtain ⟨ys, n, _, _, hlen, hyl, hf⟩ := DataW.trod_struct Tryz.underlying27 h
  rw [cells27] at hlen
  obtain ⟨c0, c1, c2, c3, rfl⟩ := list4 hlen
  obtain ⟨y0, y1, y2, y3, rfl⟩ := list4 hyl
  have f0 : DataW.trod enc Tryz.prog w 0 spare held n 3 (([c0, c1, c2, c3].drop 0).take (Tryz.prog.cellsOf 3)) = some y0 := hf 0 _ rfl
  have f1 : DataW.trod enc Tryz.prog w 0 spare held n 9 (([c0, c1, c2, c3].drop 1).take (Tryz.prog.cellsOf 9)) = some y1 := hf 1 _ rfl
  have f2 : DataW.trod enc Tryz.prog w 0 spare held n 2 (([c0, c1, c2, c3].drop 2).take (Tryz.prog.cellsOf 2)) = some y2 := hf 2 _ rfl
  have f3 : DataW.trod enc Tryz.prog w 0 spare held n 25 (([c0, c1, c2, c3].drop 3).take (Tryz.prog.cellsOf 25)) = some y3 := hf 3 _ rfl
  rw [cells3] at f0
  rw [cells9] at f1
  rw [cells2] at f2
  rw [cells25] at f3
  simp only [List.drop_zero, List.drop_succ_cons, List.take_succ_cons, List.take_zero] at f0 f1 f2 f3
  obtain ⟨k, e0, _, w0⟩ := DataW.trod_int Tryz.underlying3 f0
  obtain ⟨t, e1, _, w1⟩ := DataW.trod_string Tryz.underlying9 f1
  obtain ⟨m, e2, _, w2⟩ := DataW.trod_int Tryz.underlying2 f2
  simp only [List.cons.injEq, and_true] at e0 e1 e2
  subst e0 e1 e2
  rcases open_slice Tryz.underlying25 f3 with ⟨e3, _⟩ | ⟨a, len, cap, _, _, _, _, e3, _, hl, hc, _⟩
  · simp only [List.cons.injEq, and_true] at e3
    subst e3
    exact ⟨⟨k, t, m, none, 0, 0⟩, n, y3, rfl, w1, i64_bounds w2, i64_bounds w0, by simp, f3⟩
  · simp only [List.cons.injEq, and_true] at e3
    subst e3
    exact ⟨⟨k, t, m, some a, len, cap⟩, n, y3, rfl, w1, i64_bounds w2, i64_bounds w0, Nat.le_trans hl hc, f3⟩

/-- The elements of a list of values. -/
theorem open_vals {fuel : Nat} {la : Option Addr} {ln lc : Nat} {x : DataW H × List MemPlace} (h : DataW.trod enc Tryz.prog w 0 spare held fuel 25 [.slice la ln lc] = some x) : ∃ xs, VsAt w la ln xs := by
  rcases open_slice Tryz.underlying25 h with ⟨e, _⟩ | ⟨a, len, cap, m, n, D, Pl, e, _, hl, hc, hm, _, hi⟩
  · simp only [List.cons.injEq, Value.slice.injEq, and_true] at e
    obtain ⟨rfl, rfl, rfl⟩ := e
    exact ⟨[], rfl, by simp, fun h => absurd rfl h⟩
  · simp only [List.cons.injEq, Value.slice.injEq, and_true] at e
    obtain ⟨rfl, rfl, rfl⟩ := e
    have hlm : ln ≤ m := by rw [hm]; split <;> omega
    have hall : ∀ i, i < ln → ∃ v : V, v.Fits ∧ ∀ j (u : Value), [.int .i64 v.k, .string v.t, .int .i64 v.n, .slice v.la v.ln v.lc][j]? = some u → w.cell? ((a.add (i * 4)).add j) = some u := by
      intro i hil
      obtain ⟨cs', h1, h2⟩ := hi i (by omega)
      rw [cells27] at h1
      obtain ⟨v, _, _, rfl, g1, g2, g3, g4, _⟩ := open_val h2
      refine ⟨v, ⟨g1, g2, g3, g4⟩, fun j u hj => ?_⟩
      obtain ⟨_, hlen, hat⟩ := World.cells?_some h1
      have hj4 : j < 4 := by
        have := (List.getElem?_eq_some_iff.1 hj).1
        simpa using this
      rw [hat j hj4, hj]
    obtain ⟨f, hf⟩ := choose_lt (α := V) (n := ln) (p := fun i v => v.Fits ∧ ∀ j (u : Value), [.int .i64 v.k, .string v.t, .int .i64 v.n, .slice v.la v.ln v.lc][j]? = some u → w.cell? ((a.add (i * 4)).add j) = some u) hall
    refine ⟨(List.range ln).map f, by simp, ?_, ?_⟩
    · intro x hx
      obtain ⟨i, hi, rfl⟩ := List.mem_map.1 hx
      exact (hf i (List.mem_range.1 hi)).1
    · intro h0
      have hspot : a.spot = none := by
        have := (hf 0 (by omega)).2 0 _ rfl
        have h2 := (cell_lt' this).2
        simpa [Addr.add] using h2
      obtain ⟨b, o, sp⟩ := a
      simp only at hspot
      subst hspot
      refine ⟨b, o, rfl, fun j hj => ?_⟩
      simp only [List.length_map, List.length_range] at hj
      have hc := (hf j hj).2
      simp only [List.getElem_map, List.getElem_range]
      have ha : ∀ i, ((⟨b, o, none⟩ : Addr).add (j * 4)).add i = ⟨b, o + j * 4 + i, none⟩ := fun i => by
        unfold Addr.add
        by_cases h1 : j * 4 = 0 <;> by_cases h2 : i = 0 <;> simp [h1, h2]
      simp only [ha] at hc
      have c0 := hc 0 _ rfl
      exact ⟨c0, hc 1 _ rfl, hc 2 _ rfl, hc 3 _ rfl, (cell_lt' c0).1⟩

/-- A claim, out of its five cells. -/
theorem open_claim {fuel : Nat} {cs : List Value} {x : DataW H × List MemPlace} (h : DataW.trod enc Tryz.prog w 0 spare held fuel 29 cs = some x) :
    ∃ (c : Cl), cs = [.string c.name, .int .i64 c.v.k, .string c.v.t, .int .i64 c.v.n, .slice c.v.la c.v.ln c.v.lc] ∧ c.name.size ≤ maxLen ∧ c.v.Fits ∧ VsAt w c.v.la c.v.ln c.xs := by
  obtain ⟨ys, n, _, _, hlen, hyl, hf⟩ := DataW.trod_struct Tryz.underlying29 h
  rw [cells29] at hlen
  obtain ⟨c0, c1, c2, c3, c4, rfl⟩ := list5 hlen
  obtain ⟨y0, y1, rfl⟩ := list2 hyl
  have f0 : DataW.trod enc Tryz.prog w 0 spare held n 9 (([c0, c1, c2, c3, c4].drop 0).take (Tryz.prog.cellsOf 9)) = some y0 := hf 0 _ rfl
  have f1 : DataW.trod enc Tryz.prog w 0 spare held n 27 (([c0, c1, c2, c3, c4].drop 1).take (Tryz.prog.cellsOf 27)) = some y1 := hf 1 _ rfl
  rw [cells9] at f0
  rw [cells27] at f1
  simp only [List.drop_zero, List.drop_succ_cons, List.take_succ_cons, List.take_zero] at f0 f1
  obtain ⟨t, e0, _, w0⟩ := DataW.trod_string Tryz.underlying9 f0
  simp only [List.cons.injEq, and_true] at e0
  subst e0
  obtain ⟨v, m, y, e1, g1, g2, g3, g4, hl⟩ := open_val f1
  simp only [List.cons.injEq, and_true] at e1
  obtain ⟨rfl, rfl, rfl, rfl⟩ := e1
  obtain ⟨xs, hxs⟩ := open_vals hl
  exact ⟨⟨t, v, xs⟩, rfl, w0, ⟨g1, g2, g3, g4⟩, hxs⟩

/-- The claims that come in. -/
theorem open_claims {fuel : Nat} {sl : Value} {x : DataW H × List MemPlace} (h : DataW.trod enc Tryz.prog w 0 spare held fuel 22 [sl] = some x) :
    ∃ (a : Option Addr) (n cap : Nat) (cs : List Cl), sl = .slice a n cap ∧ CsAt w a n cs ∧ n ≤ cap ∧ cap ≤ maxLen := by
  rcases open_slice Tryz.underlying22 h with ⟨e, _⟩ | ⟨a, len, cap, m, n, D, Pl, e, _, hl, hc, hm, _, hi⟩
  · simp only [List.cons.injEq, and_true] at e
    subst e
    exact ⟨none, 0, 0, [], rfl, ⟨rfl, by simp, fun h => absurd rfl h⟩, by simp, by simp⟩
  · simp only [List.cons.injEq, and_true] at e
    subst e
    have hlm : len ≤ m := by rw [hm]; split <;> omega
    have hall : ∀ i, i < len → ∃ c : Cl, (c.name.size ≤ maxLen ∧ c.v.Fits ∧ VsAt w c.v.la c.v.ln c.xs) ∧ ∀ j (u : Value), [.string c.name, .int .i64 c.v.k, .string c.v.t, .int .i64 c.v.n, .slice c.v.la c.v.ln c.v.lc][j]? = some u → w.cell? ((a.add (i * 5)).add j) = some u := by
      intro i hil
      obtain ⟨cs', h1, h2⟩ := hi i (by omega)
      rw [cells29] at h1
      obtain ⟨c, rfl, g1, g2, g3⟩ := open_claim h2
      refine ⟨c, ⟨g1, g2, g3⟩, fun j u hj => ?_⟩
      obtain ⟨_, hlen, hat⟩ := World.cells?_some h1
      have hj5 : j < 5 := by
        have := (List.getElem?_eq_some_iff.1 hj).1
        simpa using this
      rw [hat j hj5, hj]
    obtain ⟨f, hf⟩ := choose_lt (α := Cl) (n := len) (p := fun i c => (c.name.size ≤ maxLen ∧ c.v.Fits ∧ VsAt w c.v.la c.v.ln c.xs) ∧ ∀ j (u : Value), [.string c.name, .int .i64 c.v.k, .string c.v.t, .int .i64 c.v.n, .slice c.v.la c.v.ln c.v.lc][j]? = some u → w.cell? ((a.add (i * 5)).add j) = some u) hall
    refine ⟨some a, len, cap, (List.range len).map f, rfl, ⟨by simp, Nat.le_trans hl hc, fun h0 => ?_⟩, hl, hc⟩
    have hspot : a.spot = none := by
      have := (hf 0 (by omega)).2 0 _ rfl
      have h2 := (cell_lt' this).2
      simpa [Addr.add] using h2
    obtain ⟨b, o, sp⟩ := a
    simp only at hspot
    subst hspot
    refine ⟨b, o, rfl, fun j hj => ?_⟩
    simp only [List.length_map, List.length_range] at hj
    obtain ⟨⟨g1, g2, g3⟩, hc⟩ := hf j hj
    simp only [List.getElem_map, List.getElem_range]
    have ha : ∀ i, ((⟨b, o, none⟩ : Addr).add (j * 5)).add i = ⟨b, o + j * 5 + i, none⟩ := fun i => by
      unfold Addr.add
      by_cases h1 : j * 5 = 0 <;> by_cases h2 : i = 0 <;> simp [h1, h2]
    simp only [ha] at hc
    have c0 := hc 0 _ rfl
    exact ⟨c0, hc 1 _ rfl, hc 2 _ rfl, hc 3 _ rfl, hc 4 _ rfl, (cell_lt' c0).1, g2, g1, g3⟩
end
end Go.Proofs.YtgaaehpmbkjhlaaGreatDoor
