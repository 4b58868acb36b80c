/- The map of the claims: what it holds, what a look-up gives, what a store leaves. No conditions. -/
import Derived.Test.YtgaaehpmbkjhlaaGreatDoorWVal
import Derived.MapKept
namespace Go.Proofs.YtgaaehpmbkjhlaaGreatDoor
open Go Go.RowKit

theorem eq_of_beqB {s t : ByteArray} (h : (s == t) = true) : s = t := eq_of_lists (by rw [← beq_toListBytes]; exact h)
theorem beqB_self (s : ByteArray) : (s == s) = true := by rw [beq_toListBytes]; simp
theorem beqB_ne {s t : ByteArray} (h : s ≠ t) : (s == t) = false := by
  cases hb : s == t
  · rfl
  · exact absurd (eq_of_beqB hb) h

/-- What stands for a claim's value. -/
def AnyAt (w : World) (c : Cl) (u : Value) : Prop :=
  (c.v.k = 4 ∧ ∃ sl, u = .iface 123 sl ∧ w.ownsRow 0 20 1 sl c.xs.length (c.xs.map anyLeaf)) ∨ (c.v.k ≠ 4 ∧ u = anyLeaf c.v)

theorem AnyAt.below {w w' : World} {c : Cl} {u : Value} (h : AnyAt w c u) (hb : Below w.heap.size w w') : AnyAt w' c u := by
  rcases h with ⟨h1, sl, h2, h3⟩ | h
  · exact .inl ⟨h1, sl, h2, owns_below h3 hb⟩
  · exact .inr h
theorem AnyAt.form {w : World} {c : Cl} {u : Value} (h : AnyAt w c u) : ∃ T y, u = .iface T y := by
  rcases h with ⟨h1, sl, h2, h3⟩ | ⟨h1, h2⟩
  · exact ⟨_, _, h2⟩
  · rw [h2]; exact anyLeaf_form _

/-- The entries are those of the claims, in their order. -/
def EntsAt (w : World) : List MapEntry → List Cl → Prop
  | [], [] => True
  | e :: es, c :: cs => e.key = .string c.name ∧ AnyAt w c e.val ∧ EntsAt w es cs
  | _, _ => False

theorem EntsAt.below {w w' : World} (hb : Below w.heap.size w w') : ∀ {es : List MapEntry} {cs : List Cl}, EntsAt w es cs → EntsAt w' es cs
  | [], [], _ => trivial
  | _ :: _, _ :: _, ⟨h1, h2, h3⟩ => ⟨h1, h2.below hb, EntsAt.below hb h3⟩
  | [], _ :: _, h => h.elim
  | _ :: _, [], h => h.elim

theorem EntsAt.snoc {w : World} {c : Cl} {e : MapEntry} (h1 : e.key = .string c.name) (h2 : AnyAt w c e.val) : ∀ {es : List MapEntry} {cs : List Cl}, EntsAt w es cs → EntsAt w (es ++ [e]) (cs ++ [c])
  | [], [], _ => ⟨h1, h2, trivial⟩
  | _ :: _, _ :: _, ⟨k1, k2, k3⟩ => ⟨k1, k2, EntsAt.snoc h1 h2 k3⟩
  | [], _ :: _, h => h.elim
  | _ :: _, [], h => h.elim

/-- Block bm is the map of the claims. -/
def MapAt (w : World) (bm : Nat) (cs : List Cl) : Prop := ∃ es clock, w.heap[bm]? = some (.map es clock) ∧ EntsAt w es.toList cs

theorem MapAt.lt {w : World} {bm : Nat} {cs : List Cl} (h : MapAt w bm cs) : bm < w.heap.size := by
  obtain ⟨es, clock, h1, _⟩ := h
  exact (Array.getElem?_eq_some_iff.1 h1).1
theorem MapAt.below {w w' : World} {bm : Nat} {cs : List Cl} (h : MapAt w bm cs) (hb : Below w.heap.size w w') : MapAt w' bm cs := by
  have hl := h.lt
  obtain ⟨es, clock, h1, h2⟩ := h
  exact ⟨es, clock, (hb.block bm hl).trans h1, h2.below hb⟩

/-- The first claim of a name. -/
def findC (cs : List Cl) (s : ByteArray) : Option Cl := cs.find? fun c => s == c.name

theorem findNow_ents {w : World} (s : ByteArray) : ∀ (es : List MapEntry) (cs : List Cl) (i : Nat), EntsAt w es cs →
    match findC cs s with
    | none => Instr.findNow .string (.string s) es i = some none
    | some c => ∃ j u, Instr.findNow .string (.string s) es i = some (some (j, u)) ∧ AnyAt w c u := by
  intro es
  induction es with
  | nil =>
    intro cs i h
    cases cs with
    | nil => simp [findC, Instr.findNow]
    | cons c cs => exact h.elim
  | cons e es ih =>
    intro cs i h
    cases cs with
    | nil => exact h.elim
    | cons c cs =>
      obtain ⟨h1, h2, h3⟩ := h
      by_cases hs : (s == c.name) = true
      · simp only [findC, List.find?_cons, hs]
        exact ⟨i, e.val, by simp [Instr.findNow, Instr.sameNow, h1, hs], h2⟩
      · have hs' : (s == c.name) = false := by simpa using hs
        have := ih cs (i + 1) h3
        simp only [findC, List.find?_cons, hs'] at this ⊢
        have e1 : Instr.findNow .string (.string s) (e :: es) i = Instr.findNow .string (.string s) es (i + 1) := by
          rw [Instr.findNow, h1]
          simp [Instr.sameNow, hs']
        rw [e1]
        exact this

theorem run_checkKey_plain (P : Program) (e : Bool) (n : Nat) (t : TypeId) (s : ByteArray) (ht : P.underlying t = some .string) (w : World) : (Instr.checkKey e (n + 1) t (.string s)).run P w = .ok () w := by
  simp [Instr.checkKey, run_underlying ht]
theorem run_checkKey_string (e : Bool) (s : ByteArray) (w : World) : (Instr.checkKey e 10000 9 (.string s)).run Tryz.prog w = .ok () w :=
  run_checkKey_plain Tryz.prog e 9999 9 s Tryz.underlying9 w

/-- The look-up of a name that is not there. -/
theorem run_lookup_no {w : World} {bm : Nat} {cs : List Cl} (h : MapAt w bm cs) (s : ByteArray) (hf : findC cs s = none) :
    (Instr.lookup 47 (.map (some bm)) (.string s) true).run Tryz.prog w = .ok (.tuple #[.nilIface, .bool false]) w := by
  obtain ⟨es, clock, h1, h2⟩ := h
  have hn := findNow_ents s es.toList cs 0 h2
  rw [hf] at hn
  simp only at hn
  simp [Instr.lookup, run_underlying Tryz.underlying47, MapKept.run_getObj_map h1, run_checkKey_string, Instr.findKey, run_underlying Tryz.underlying9, hn]

/-- The look-up of a name that is there. -/
theorem run_lookup_yes {w : World} {bm : Nat} {cs : List Cl} (h : MapAt w bm cs) (s : ByteArray) {c : Cl} (hf : findC cs s = some c) :
    ∃ u, AnyAt w c u ∧ (Instr.lookup 47 (.map (some bm)) (.string s) true).run Tryz.prog w = .ok (.tuple #[u, .bool true]) w := by
  obtain ⟨es, clock, h1, h2⟩ := h
  have hn := findNow_ents s es.toList cs 0 h2
  rw [hf] at hn
  obtain ⟨j, u, hn, hu⟩ := hn
  refine ⟨u, hu, ?_⟩
  simp [Instr.lookup, run_underlying Tryz.underlying47, MapKept.run_getObj_map h1, run_checkKey_string, Instr.findKey, run_underlying Tryz.underlying9, hn]

/-- The world behind a store of a new key. -/
def World.putNew (w : World) (bm : Nat) (es : Array MapEntry) (clock : Nat) (s : ByteArray) (u : Value) : World :=
  { w with heap := w.heap.setIfInBounds bm (.map (es.push { key := .string s, val := u, born := clock }) (clock + 1)) }

theorem putNew_cell {w : World} {bm : Nat} {es : Array MapEntry} {clock : Nat} {s : ByteArray} {u : Value} {b o : Nat} (h : b ≠ bm) : (World.putNew w bm es clock s u).cell? ⟨b, o, none⟩ = w.cell? ⟨b, o, none⟩ := by
  refine World.cell?_of_block ?_
  simp only [World.putNew]
  rw [Array.getElem?_setIfInBounds, if_neg (fun e => h e.symm)]

theorem entsAny {w w' : World} (hb : ∀ c u, AnyAt w c u → AnyAt w' c u) : ∀ {es : List MapEntry} {cs : List Cl}, EntsAt w es cs → EntsAt w' es cs
  | [], [], _ => trivial
  | _ :: _, _ :: _, ⟨h1, h2, h3⟩ => ⟨h1, hb _ _ h2, entsAny hb h3⟩
  | [], _ :: _, h => h.elim
  | _ :: _, [], h => h.elim

theorem anyPut {w : World} {bm : Nat} {es : Array MapEntry} {clock : Nat} (h1 : w.heap[bm]? = some (.map es clock)) (s : ByteArray) (v : Value) {c : Cl} {u : Value} (h : AnyAt w c u) : AnyAt (World.putNew w bm es clock s v) c u := by
  rcases h with ⟨k1, sl, k2, k3⟩ | h
  · refine .inl ⟨k1, sl, k2, k3.1, ?_⟩
    rcases k3.2 with h0 | ⟨g, cap, cur, hv, hg, hh, rest⟩
    · exact .inl h0
    · refine .inr ⟨g, cap, cur, hv, hg, ?_, rest⟩
      simp only [World.putNew]
      rw [Array.getElem?_setIfInBounds, if_neg ?_]
      · exact hh
      · rintro rfl
        rw [h1] at hh
        cases hh
  · exact .inr h

/-- Behind the store the map has one claim more. -/
theorem putNew_map {w : World} {bm : Nat} {cs : List Cl} {es : Array MapEntry} {clock : Nat} {u : Value} {c : Cl} (h1 : w.heap[bm]? = some (.map es clock)) (h2 : EntsAt w es.toList cs) (hu : AnyAt w c u) :
    MapAt (World.putNew w bm es clock c.name u) bm (cs ++ [c]) := by
  have hlt := (Array.getElem?_eq_some_iff.1 h1).1
  refine ⟨es.push { key := .string c.name, val := u, born := clock }, clock + 1, ?_, ?_⟩
  rotate_left
  · rw [Array.toList_push]
    refine EntsAt.snoc rfl ?_ ?_
    · exact anyPut h1 _ _ hu
    · exact entsAny (fun c' u' h' => anyPut h1 _ _ h') h2
  · simp only [World.putNew]
    rw [Array.getElem?_setIfInBounds, if_pos rfl, if_pos hlt]

theorem run_store_new {w : World} {bm : Nat} {cs : List Cl} {es : Array MapEntry} {clock : Nat} (h1 : w.heap[bm]? = some (.map es clock)) (h2 : EntsAt w es.toList cs) (s : ByteArray) (u : Value) (hf : findC cs s = none) :
    (Instr.mapUpdate 47 (.map (some bm)) (.string s) u).run Tryz.prog w = .ok () (World.putNew w bm es clock s u) := by
  have hn := findNow_ents s es.toList cs 0 h2
  rw [hf] at hn
  simp only at hn
  simp [Instr.mapUpdate, run_underlying Tryz.underlying47, MapKept.run_getObj_map h1, run_checkKey_string, Instr.findKey, run_underlying Tryz.underlying9, hn, MapKept.run_setObj_map _ h1, World.putNew]

theorem putNew_below {B : Nat} {a w : World} {bm : Nat} {es : Array MapEntry} {clock : Nat} {s : ByteArray} {u : Value} (h : Below B a w) (hB : B ≤ bm) : Below B a (World.putNew w bm es clock s u) :=
  h.trans ⟨rfl, rfl, rfl, by simp [World.putNew], fun k hk => by
    simp only [World.putNew]
    rw [Array.getElem?_setIfInBounds, if_neg (by omega)]⟩
end Go.Proofs.YtgaaehpmbkjhlaaGreatDoor
