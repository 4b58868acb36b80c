/- How the settings that come in read: from the row's reading to the memory words of the walks. No conditions. -/
import Derived.Test.YtgaaehpmbkjhlaaGreatDoorOpen
import Derived.Test.YtgaaehpmbkjhlaaGreatDoorWSet
namespace Go.Proofs.YtgaaehpmbkjhlaaGreatDoor
open Go Go.RowKit Go.ChangeShapes Go.WideShapes Go.Deep

theorem cells24 : Tryz.prog.cellsOf 24 = 1 := by kernel_rfl
theorem cells4 : Tryz.prog.cellsOf 4 = 1 := by kernel_rfl
theorem cells38 : Tryz.prog.cellsOf 38 = 13 := by kernel_rfl

theorem list13 {α : Type} {l : List α} (h : l.length = 13) : ∃ a b c d e f g h i j k m n, l = [a, b, c, d, e, f, g, h, i, j, k, m, n] := by
  match l, h with
  | [a, b, c, d, e, f, g, h, i, j, k, m, n], _ => exact ⟨a, b, c, d, e, f, g, h, i, j, k, m, n, rfl⟩

section
variable {H : Type} {enc : TypeId × Value → H} {w : World} {spare : Nat → Bool} {held : Bool}

/-- A list of texts. -/
theorem open_strs {fuel : Nat} {c0 : Value} {x : DataW H × List MemPlace} (h : DataW.trod enc Tryz.prog w 0 spare held fuel 24 [c0] = some x) :
    ∃ (a : Option Addr) (n c : Nat) (ss : List ByteArray), c0 = .slice a n c ∧ StrsAt w a n ss ∧ (∀ s ∈ ss, s.size ≤ maxLen) ∧ n ≤ maxLen := by
  rcases open_slice1 Tryz.underlying24 cells9 h with ⟨e, _⟩ | ⟨a, len, cap, m, n, V, D, Pl, e, _, hl, hc, hm, _, hi⟩
  · simp only [List.cons.injEq, and_true] at e
    subst e
    exact ⟨none, 0, 0, [], rfl, ⟨rfl, fun h => absurd rfl h⟩, by simp, by simp⟩
  · simp only [List.cons.injEq, and_true] at e
    subst e
    have hlm : len ≤ m := by rw [hm]; split <;> omega
    have hall : ∀ i, i < len → ∃ s : ByteArray, w.cell? (a.add i) = some (.string s) ∧ s.size ≤ maxLen := by
      intro i hil
      obtain ⟨h1, h2⟩ := hi i (by omega)
      obtain ⟨s, e, _, hs⟩ := DataW.trod_string Tryz.underlying9 h2
      simp only [List.cons.injEq, and_true] at e
      rw [e] at h1
      exact ⟨s, h1, hs⟩
    obtain ⟨f, hf⟩ := choose_lt (α := ByteArray) (n := len) (p := fun i s => w.cell? (a.add i) = some (.string s) ∧ s.size ≤ maxLen) hall
    refine ⟨some a, len, cap, (List.range len).map f, rfl, ⟨by simp, fun h0 => ?_⟩, ?_, by omega⟩
    · have hc0 := (hf 0 (by omega)).1
      have h2 := cell_lt' hc0
      obtain ⟨b, o, sp⟩ := a
      obtain rfl : sp = none := by simpa [Addr.add] using h2.2
      refine ⟨b, o, rfl, by simpa [Addr.add] using h2.1, fun j hj => ?_⟩
      simp only [List.length_map, List.length_range] at hj
      simp only [List.getElem_map, List.getElem_range]
      have := (hf j hj).1
      rwa [show (⟨b, o, none⟩ : Addr).add j = ⟨b, o + j, none⟩ by unfold Addr.add; by_cases h1 : j = 0 <;> simp [h1]] at this
    · intro s hs
      obtain ⟨i, hi, rfl⟩ := List.mem_map.1 hs
      exact (hf i (List.mem_range.1 hi)).2

set_option maxHeartbeats 1000000 in
/-- The settings that come in. -/
theorem open_settings {fuel : Nat} {cs : List Value} {x : DataW H × List MemPlace} (h : DataW.trod enc Tryz.prog w 0 spare held fuel 38 cs = some x) :
    ∃ s : St, cs = s.vals.toList ∧ StAt w s := by
  obtain ⟨ys, n, _, _, hlen, hyl, hf⟩ := DataW.trod_struct Tryz.underlying38 h
  rw [cells38] at hlen
  obtain ⟨c0, c1, c2, c3, c4, c5, c6, c7, c8, c9, c10, c11, c12, rfl⟩ := list13 hlen
  obtain ⟨y0, y1, y2, y3, y4, y5, y6, y7, y8, y9, y10, y11, y12, rfl⟩ := list13 hyl
  have f0 : DataW.trod enc Tryz.prog w 0 spare held n 2 (([c0, c1, c2, c3, c4, c5, c6, c7, c8, c9, c10, c11, c12].drop 0).take (Tryz.prog.cellsOf 2)) = some y0 := hf 0 _ rfl
  have f1 : DataW.trod enc Tryz.prog w 0 spare held n 2 (([c0, c1, c2, c3, c4, c5, c6, c7, c8, c9, c10, c11, c12].drop 1).take (Tryz.prog.cellsOf 2)) = some y1 := hf 1 _ rfl
  have f2 : DataW.trod enc Tryz.prog w 0 spare held n 24 (([c0, c1, c2, c3, c4, c5, c6, c7, c8, c9, c10, c11, c12].drop 2).take (Tryz.prog.cellsOf 24)) = some y2 := hf 2 _ rfl
  have f3 : DataW.trod enc Tryz.prog w 0 spare held n 24 (([c0, c1, c2, c3, c4, c5, c6, c7, c8, c9, c10, c11, c12].drop 3).take (Tryz.prog.cellsOf 24)) = some y3 := hf 3 _ rfl
  have f4 : DataW.trod enc Tryz.prog w 0 spare held n 4 (([c0, c1, c2, c3, c4, c5, c6, c7, c8, c9, c10, c11, c12].drop 4).take (Tryz.prog.cellsOf 4)) = some y4 := hf 4 _ rfl
  have f5 : DataW.trod enc Tryz.prog w 0 spare held n 9 (([c0, c1, c2, c3, c4, c5, c6, c7, c8, c9, c10, c11, c12].drop 5).take (Tryz.prog.cellsOf 9)) = some y5 := hf 5 _ rfl
  have f6 : DataW.trod enc Tryz.prog w 0 spare held n 9 (([c0, c1, c2, c3, c4, c5, c6, c7, c8, c9, c10, c11, c12].drop 6).take (Tryz.prog.cellsOf 9)) = some y6 := hf 6 _ rfl
  have f7 : DataW.trod enc Tryz.prog w 0 spare held n 4 (([c0, c1, c2, c3, c4, c5, c6, c7, c8, c9, c10, c11, c12].drop 7).take (Tryz.prog.cellsOf 4)) = some y7 := hf 7 _ rfl
  have f8 : DataW.trod enc Tryz.prog w 0 spare held n 4 (([c0, c1, c2, c3, c4, c5, c6, c7, c8, c9, c10, c11, c12].drop 8).take (Tryz.prog.cellsOf 4)) = some y8 := hf 8 _ rfl
  have f9 : DataW.trod enc Tryz.prog w 0 spare held n 4 (([c0, c1, c2, c3, c4, c5, c6, c7, c8, c9, c10, c11, c12].drop 9).take (Tryz.prog.cellsOf 4)) = some y9 := hf 9 _ rfl
  have f10 : DataW.trod enc Tryz.prog w 0 spare held n 4 (([c0, c1, c2, c3, c4, c5, c6, c7, c8, c9, c10, c11, c12].drop 10).take (Tryz.prog.cellsOf 4)) = some y10 := hf 10 _ rfl
  have f11 : DataW.trod enc Tryz.prog w 0 spare held n 4 (([c0, c1, c2, c3, c4, c5, c6, c7, c8, c9, c10, c11, c12].drop 11).take (Tryz.prog.cellsOf 4)) = some y11 := hf 11 _ rfl
  have f12 : DataW.trod enc Tryz.prog w 0 spare held n 4 (([c0, c1, c2, c3, c4, c5, c6, c7, c8, c9, c10, c11, c12].drop 12).take (Tryz.prog.cellsOf 4)) = some y12 := hf 12 _ rfl
  rw [cells2] at f0 f1
  rw [cells24] at f2 f3
  rw [cells9] at f5 f6
  rw [cells4] at f4 f7 f8 f9 f10 f11 f12
  simp only [List.drop_zero, List.drop_succ_cons, List.take_succ_cons, List.take_zero] at f0 f1 f2 f3 f4 f5 f6 f7 f8 f9 f10 f11 f12
  obtain ⟨now, e0, _, w0⟩ := DataW.trod_int Tryz.underlying2 f0
  obtain ⟨lee, e1, _, w1⟩ := DataW.trod_int Tryz.underlying2 f1
  obtain ⟨ma, ml, mc, ms, rfl, hm, hmz, hml⟩ := open_strs f2
  obtain ⟨aa, al, ac, us, rfl, ha, haz, hal⟩ := open_strs f3
  obtain ⟨b4, e4, _⟩ := DataW.trod_bool Tryz.underlying4 f4
  obtain ⟨iss, e5, _, w5⟩ := DataW.trod_string Tryz.underlying9 f5
  obtain ⟨sub, e6, _, w6⟩ := DataW.trod_string Tryz.underlying9 f6
  obtain ⟨b7, e7, _⟩ := DataW.trod_bool Tryz.underlying4 f7
  obtain ⟨b8, e8, _⟩ := DataW.trod_bool Tryz.underlying4 f8
  obtain ⟨b9, e9, _⟩ := DataW.trod_bool Tryz.underlying4 f9
  obtain ⟨b10, e10, _⟩ := DataW.trod_bool Tryz.underlying4 f10
  obtain ⟨b11, e11, _⟩ := DataW.trod_bool Tryz.underlying4 f11
  obtain ⟨b12, e12, _⟩ := DataW.trod_bool Tryz.underlying4 f12
  simp only [List.cons.injEq, and_true] at e0 e1 e4 e5 e6 e7 e8 e9 e10 e11 e12
  subst e0 e1 e4 e5 e6 e7 e8 e9 e10 e11 e12
  exact ⟨⟨now, lee, ma, ml, mc, ms, aa, al, ac, us, b4, iss, sub, b7, b8, b9, b10, b11, b12⟩, rfl, i64_bounds w0, i64_bounds w1, hm, ha, hmz, haz, hml, hal, w5, w6⟩
end
end Go.Proofs.YtgaaehpmbkjhlaaGreatDoor
