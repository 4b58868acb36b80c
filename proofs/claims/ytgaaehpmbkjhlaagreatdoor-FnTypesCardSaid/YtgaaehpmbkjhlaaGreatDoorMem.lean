/- How the claims lie in memory, and what right claims are. No conditions. -/
import Derived.Test.YtgaaehpmbkjhlaaGreatDoorWText
namespace Go.Proofs.YtgaaehpmbkjhlaaGreatDoor
open Go Go.RowKit

/-- A value lies at block b, offset o. -/
structure VAt (w : World) (b o : Nat) (v : V) : Prop where
  c0 : w.cell? ⟨b, o, none⟩ = some (.int .i64 v.k)
  c1 : w.cell? ⟨b, o + 1, none⟩ = some (.string v.t)
  c2 : w.cell? ⟨b, o + 2, none⟩ = some (.int .i64 v.n)
  c3 : w.cell? ⟨b, o + 3, none⟩ = some (.slice v.la v.ln v.lc)
  blk : b < w.heap.size

theorem VAt.below {w w' : World} {b o : Nat} {v : V} (h : VAt w b o v) (hb : Below w.heap.size w w') : VAt w' b o v :=
  ⟨(hb.cell (p := ⟨b, _, none⟩) h.blk).trans h.c0, (hb.cell (p := ⟨b, _, none⟩) h.blk).trans h.c1, (hb.cell (p := ⟨b, _, none⟩) h.blk).trans h.c2, (hb.cell (p := ⟨b, _, none⟩) h.blk).trans h.c3, Nat.lt_of_lt_of_le h.blk hb.size⟩

/-- A value's sizes fit. -/
structure V.Fits (v : V) : Prop where
  t : v.t.size ≤ maxLen
  n : -9223372036854775808 ≤ v.n ∧ v.n ≤ 9223372036854775807
  k : -9223372036854775808 ≤ v.k ∧ v.k ≤ 9223372036854775807
  l : v.ln ≤ maxLen

/-- Values lie one behind the other. -/
def VsAt (w : World) (la : Option Addr) (ln : Nat) (xs : List V) : Prop :=
  xs.length = ln ∧ (∀ x ∈ xs, x.Fits) ∧ (ln ≠ 0 → ∃ b o, la = some ⟨b, o, none⟩ ∧ ∀ j (h : j < xs.length), VAt w b (o + j * 4) xs[j])

theorem VsAt.below {w w' : World} {la : Option Addr} {ln : Nat} {xs : List V} (h : VsAt w la ln xs) (hb : Below w.heap.size w w') : VsAt w' la ln xs :=
  ⟨h.1, h.2.1, fun hl => let ⟨b, o, e, hc⟩ := h.2.2 hl; ⟨b, o, e, fun j hj => (hc j hj).below hb⟩⟩

/-- A claim: its name, its value, the value's elements. -/
structure Cl where
  name : ByteArray
  v : V
  xs : List V

structure ClAt (w : World) (b o : Nat) (c : Cl) : Prop where
  c0 : w.cell? ⟨b, o, none⟩ = some (.string c.name)
  c1 : w.cell? ⟨b, o + 1, none⟩ = some (.int .i64 c.v.k)
  c2 : w.cell? ⟨b, o + 2, none⟩ = some (.string c.v.t)
  c3 : w.cell? ⟨b, o + 3, none⟩ = some (.int .i64 c.v.n)
  c4 : w.cell? ⟨b, o + 4, none⟩ = some (.slice c.v.la c.v.ln c.v.lc)
  blk : b < w.heap.size
  fits : c.v.Fits
  name : c.name.size ≤ maxLen
  list : VsAt w c.v.la c.v.ln c.xs

theorem ClAt.below {w w' : World} {b o : Nat} {c : Cl} (h : ClAt w b o c) (hb : Below w.heap.size w w') : ClAt w' b o c :=
  ⟨(hb.cell (p := ⟨b, _, none⟩) h.blk).trans h.c0, (hb.cell (p := ⟨b, _, none⟩) h.blk).trans h.c1, (hb.cell (p := ⟨b, _, none⟩) h.blk).trans h.c2, (hb.cell (p := ⟨b, _, none⟩) h.blk).trans h.c3, (hb.cell (p := ⟨b, _, none⟩) h.blk).trans h.c4, Nat.lt_of_lt_of_le h.blk hb.size, h.fits, h.name, h.list.below hb⟩

/-- Claims lie one behind the other. -/
def CsAt (w : World) (a : Option Addr) (n : Nat) (cs : List Cl) : Prop :=
  cs.length = n ∧ n ≤ maxLen ∧ (n ≠ 0 → ∃ b o, a = some ⟨b, o, none⟩ ∧ ∀ i (h : i < cs.length), ClAt w b (o + i * 5) cs[i])

theorem CsAt.below {w w' : World} {a : Option Addr} {n : Nat} {cs : List Cl} (h : CsAt w a n cs) (hb : Below w.heap.size w w') : CsAt w' a n cs :=
  ⟨h.1, h.2.1, fun hl => let ⟨b, o, e, hc⟩ := h.2.2 hl; ⟨b, o, e, fun j hj => (hc j hj).below hb⟩⟩

abbrev EXP : ByteArray := ⟨#[101, 120, 112]⟩
abbrev NBF : ByteArray := ⟨#[110, 98, 102]⟩
abbrev IAT : ByteArray := ⟨#[105, 97, 116]⟩
abbrev ISS : ByteArray := ⟨#[105, 115, 115]⟩
abbrev SUB : ByteArray := ⟨#[115, 117, 98]⟩
abbrev AUD : ByteArray := ⟨#[97, 117, 100]⟩

theorem list_ne {s : ByteArray} {l : List UInt8} (h : s ≠ ⟨l.toArray⟩) : (s.toList == l) = false := by
  rw [beq_eq_false_iff_ne]
  intro e
  apply h
  rw [← e, ByteArray.toList_eq]
theorem ne_of_lists {s t : ByteArray} (h : (s.toList == t.toList) = false) : s ≠ t := by
  rintro rfl
  simp at h
theorem eq_of_lists {s t : ByteArray} (h : (s.toList == t.toList) = true) : s = t := by
  have := beq_iff_eq.1 h
  rw [ByteArray.toList_eq, ByteArray.toList_eq] at this
  cases s; cases t
  simpa [Array.toList_inj] using this
theorem size_of_nil {s : ByteArray} (h : s.toList = []) : s.size = 0 := by
  rw [ByteArray.toList_eq] at h
  show s.data.size = 0
  rw [← Array.length_toList, h]; rfl
/-- A name is one of the six, or none. -/
theorem name_cases (s : ByteArray) : s = EXP ∨ s = NBF ∨ s = IAT ∨ s = ISS ∨ s = SUB ∨ s = AUD ∨
    ((s.toList == [101, 120, 112]) = false ∧ (s.toList == [110, 98, 102]) = false ∧ (s.toList == [105, 97, 116]) = false ∧ (s.toList == [105, 115, 115]) = false ∧ (s.toList == [115, 117, 98]) = false ∧ (s.toList == [97, 117, 100]) = false) := by
  by_cases h1 : s = EXP
  · exact .inl h1
  by_cases h2 : s = NBF
  · exact .inr (.inl h2)
  by_cases h3 : s = IAT
  · exact .inr (.inr (.inl h3))
  by_cases h4 : s = ISS
  · exact .inr (.inr (.inr (.inl h4)))
  by_cases h5 : s = SUB
  · exact .inr (.inr (.inr (.inr (.inl h5))))
  by_cases h6 : s = AUD
  · exact .inr (.inr (.inr (.inr (.inr (.inl h6)))))
  exact .inr (.inr (.inr (.inr (.inr (.inr ⟨list_ne h1, list_ne h2, list_ne h3, list_ne h4, list_ne h5, list_ne h6⟩)))))

/-- A right claim. -/
inductive OkC (c : Cl) : Prop
  | date (hn : c.name = EXP ∨ c.name = NBF ∨ c.name = IAT) (hk : c.v.k = 2) (h1 : 1 ≤ c.v.n) (h2 : c.v.n ≤ 1099511627776) (ht : c.v.t.size = 0) (hl : c.v.ln = 0)
  | text (hn : c.name = ISS ∨ c.name = SUB) (hv : IsTextV c.v)
  | aud1 (hn : c.name = AUD) (hv : IsTextV c.v)
  | aud (hn : c.name = AUD) (hk : c.v.k = 4) (ht : c.v.t.size = 0) (h0 : c.v.n = 0) (h1 : 1 ≤ c.v.ln) (h2 : c.v.ln ≤ 10) (hx : ∀ x ∈ c.xs, IsTextV x)

/-- The first k claims are right: each name once. -/
def OkTo (cs : List Cl) (k : Nat) : Prop := (∀ i (h : i < cs.length), i < k → OkC cs[i]) ∧ ∀ i j (h : i < cs.length) (h' : j < cs.length), i < k → j < i → cs[i].name ≠ cs[j].name
def Valid (cs : List Cl) : Prop := OkTo cs cs.length
theorem OkTo.zero (cs : List Cl) : OkTo cs 0 := ⟨fun _ _ h => by omega, fun _ _ _ _ h => by omega⟩
theorem OkTo.succ {cs : List Cl} {k : Nat} (h : OkTo cs k) (hk : k < cs.length) (hc : OkC cs[k]) (hn : ∀ j (h' : j < cs.length), j < k → cs[k].name ≠ cs[j].name) : OkTo cs (k + 1) := by
  refine ⟨fun i hi hlt => ?_, fun i j hi hj hlt hji => ?_⟩
  · rcases Nat.lt_or_ge i k with h1 | h1
    · exact h.1 i hi h1
    · obtain rfl : i = k := by omega
      exact hc
  · rcases Nat.lt_or_ge i k with h1 | h1
    · exact h.2 i j hi hj h1 hji
    · obtain rfl : i = k := by omega
      exact hn j hj hji
end Go.Proofs.YtgaaehpmbkjhlaaGreatDoor
