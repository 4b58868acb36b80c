/- The map of what is wrong: from numbers to truths; what a look-up gives, what a store leaves. No conditions. -/
import Derived.Test.YtgaaehpmbkjhlaaGreatDoorMapLaw
namespace Go.Proofs.YtgaaehpmbkjhlaaGreatDoor
open Go Go.RowKit

def lookI : List (Int × Bool) → Int → Bool
  | [], _ => false
  | p :: ps, k => if k = p.1 then p.2 else lookI ps k
def setI : List (Int × Bool) → Int → Bool → List (Int × Bool)
  | [], k, b => [(k, b)]
  | p :: ps, k, b => if k = p.1 then (k, b) :: ps else p :: setI ps k b

theorem lookI_setI (k k' : Int) (b : Bool) : ∀ ps, lookI (setI ps k b) k' = if k' = k then b else lookI ps k'
  | [] => by simp [setI, lookI]
  | p :: ps => by
    unfold setI
    by_cases h : k = p.1
    · rw [if_pos h]
      by_cases h' : k' = k
      · simp [lookI, h']
      · simp only [lookI, if_neg h', if_neg (show ¬ k' = p.1 by rw [← h]; exact h')]
    · rw [if_neg h]
      have ih := lookI_setI k k' b ps
      by_cases h' : k' = p.1
      · have h2 : ¬ k' = k := by rw [h']; exact fun e => h e.symm
        simp only [lookI, if_neg h2, if_pos h']
      · simp only [lookI, if_neg h', ih]

/-- The entries are numbers with truths. -/
def IntEnts : List MapEntry → List (Int × Bool) → Prop
  | [], [] => True
  | e :: es, p :: ps => e.key = .int .i64 p.1 ∧ e.val = .bool p.2 ∧ IntEnts es ps
  | _, _ => False

/-- What a search for a number gives. -/
def FoundI (ps : List (Int × Bool)) (es : List MapEntry) (k : Int) (i : Nat) : Option (Option (Nat × Value)) → Prop
  | none => False
  | some none => lookI ps k = false ∧ ∀ (e : MapEntry) (b : Bool), e.key = .int .i64 k → e.val = .bool b → IntEnts (es ++ [e]) (setI ps k b)
  | some (some (j, v)) => ∃ q, j = i + q ∧ v = .bool (lookI ps k) ∧ (es[q]?).map (·.key) = some (.int .i64 k) ∧ ∀ (f : MapEntry → MapEntry) (b : Bool), (∀ e, (f e).key = .int .i64 k ∧ (f e).val = .bool b) → IntEnts (es.modify q f) (setI ps k b)

theorem findI (k : Int) : ∀ (ps : List (Int × Bool)) (es : List MapEntry) (i : Nat), IntEnts es ps → FoundI ps es k i (Instr.findNow (.int .i64) (.int .i64 k) es i)
  | [], [], i, _ => by
    simp only [Instr.findNow, FoundI]
    exact ⟨rfl, fun e b h1 h2 => ⟨h1, h2, trivial⟩⟩
  | [], _ :: _, _, h => h.elim
  | _ :: _, [], _, h => h.elim
  | p :: ps, e :: es, i, ⟨h1, h2, h3⟩ => by
    by_cases hk : k = p.1
    · have : Instr.findNow (.int .i64) (.int .i64 k) (e :: es) i = some (some (i, e.val)) := by
        simp [Instr.findNow, Instr.sameNow, h1, hk]
      rw [this]
      refine ⟨0, rfl, by simp [lookI, hk, h2], by simp [h1, hk], fun f b hf => ?_⟩
      have e0 : (e :: es).modify 0 f = f e :: es := rfl
      rw [e0]
      unfold setI
      rw [if_pos hk]
      exact ⟨(hf e).1, (hf e).2, h3⟩
    · have : Instr.findNow (.int .i64) (.int .i64 k) (e :: es) i = Instr.findNow (.int .i64) (.int .i64 k) es (i + 1) := by
        have hb : (k == p.1) = false := by simp [hk]
        rw [Instr.findNow, h1]
        simp [Instr.sameNow, hb]
      rw [this]
      have ih := findI k ps es (i + 1) h3
      revert ih
      rcases Instr.findNow (.int .i64) (.int .i64 k) es (i + 1) with _ | _ | ⟨j, v⟩
      · exact id
      · rintro ⟨g1, g2⟩
        refine ⟨by simp [lookI, hk, g1], fun e' b k1 k2 => ?_⟩
        unfold setI
        rw [if_neg hk]
        exact ⟨h1, h2, g2 e' b k1 k2⟩
      · rintro ⟨q, g1, g2, g3, g4⟩
        refine ⟨q + 1, by omega, by simp [lookI, hk, g2], by simpa using g3, fun f b hf => ?_⟩
        have e0 : (e :: es).modify (q + 1) f = e :: es.modify q f := rfl
        rw [e0]
        unfold setI
        rw [if_neg hk]
        exact ⟨h1, h2, g4 f b hf⟩

/-- Block bm is the map whose truths are f. -/
def WMap (w : World) (bm : Nat) (f : Int → Bool) : Prop := ∃ es clock ps, w.heap[bm]? = some (.map es clock) ∧ IntEnts es.toList ps ∧ ∀ k, lookI ps k = f k
def updI (f : Int → Bool) (k : Int) (b : Bool) : Int → Bool := fun j => if j = k then b else f j

theorem WMap.lt {w : World} {bm : Nat} {f : Int → Bool} (h : WMap w bm f) : bm < w.heap.size := by
  obtain ⟨es, clock, ps, h1, _⟩ := h
  exact (Array.getElem?_eq_some_iff.1 h1).1
theorem WMap.below {w w' : World} {bm : Nat} {f : Int → Bool} (h : WMap w bm f) (hb : Below w.heap.size w w') : WMap w' bm f := by
  have hl := h.lt
  obtain ⟨es, clock, ps, h1, h2⟩ := h
  exact ⟨es, clock, ps, (hb.block bm hl).trans h1, h2⟩

/-- The world behind a store into a map. -/
def World.putMap (w : World) (bm : Nat) (o : Obj) : World := { w with heap := w.heap.setIfInBounds bm o }
theorem putMap_below {B : Nat} {a w : World} {bm : Nat} {o : Obj} (h : Below B a w) (hB : B ≤ bm) : Below B a (World.putMap w bm o) :=
  h.trans ⟨rfl, rfl, rfl, by simp [World.putMap], fun k hk => by
    simp only [World.putMap]
    rw [Array.getElem?_setIfInBounds, if_neg (by omega)]⟩
theorem putMap_size (w : World) (bm : Nat) (o : Obj) : (World.putMap w bm o).heap.size = w.heap.size := by simp [World.putMap]
theorem putMap_cell {w : World} {bm : Nat} {o : Obj} {b i : Nat} (h : b ≠ bm) : (World.putMap w bm o).cell? ⟨b, i, none⟩ = w.cell? ⟨b, i, none⟩ := by
  refine World.cell?_of_block ?_
  simp only [World.putMap]
  rw [Array.getElem?_setIfInBounds, if_neg (fun e => h e.symm)]

theorem run_checkKey_num (P : Program) (e : Bool) (n : Nat) (t : TypeId) (k : Int) (ht : P.underlying t = some (.int .i64)) (w : World) : (Instr.checkKey e (n + 1) t (.int .i64 k)).run P w = .ok () w := by
  simp [Instr.checkKey, run_underlying ht]
theorem run_checkKey_int (e : Bool) (k : Int) (w : World) : (Instr.checkKey e 10000 3 (.int .i64 k)).run Tryz.prog w = .ok () w :=
  run_checkKey_num Tryz.prog e 9999 3 k Tryz.underlying3 w
theorem zero_bool (w : World) : (zeroValue 4).run Tryz.prog w = .ok (.bool false) w := by kernel_rfl
theorem run_keyStays (v : Value) (h : Instr.sameBits 10000 v v = true) (w : World) : (Instr.keyThatStays v v).run Tryz.prog w = .ok v w := by
  unfold Instr.keyThatStays
  rw [if_pos h]
  rfl
theorem same_int' (n : Nat) (k : Int) : Instr.sameBits n (.int .i64 k) (.int .i64 k) = true := by
  cases n <;> simp [Instr.sameBits]
theorem same_int (k : Int) : Instr.sameBits 10000 (.int .i64 k) (.int .i64 k) = true := same_int' _ k

theorem look_int {w : World} {bm : Nat} {f : Int → Bool} (h : WMap w bm f) (k : Int) : (Instr.lookup 75 (.map (some bm)) (.int .i64 k) false).run Tryz.prog w = .ok (.bool (f k)) w := by
  obtain ⟨es, clock, ps, h1, h2, h3⟩ := h
  have hn := findI k ps es.toList 0 h2
  rw [← h3 k]
  revert hn
  rcases hfn : Instr.findNow (.int .i64) (.int .i64 k) es.toList 0 with _ | _ | ⟨j, v⟩
  · exact fun h => h.elim
  · rintro ⟨g1, _⟩
    rw [g1]
    simp [Instr.lookup, run_underlying Tryz.underlying75, MapKept.run_getObj_map h1, run_checkKey_int, Instr.findKey, run_underlying Tryz.underlying3, hfn, zero_bool]
  · rintro ⟨q, g1, g2, g3, g4⟩
    simp [Instr.lookup, run_underlying Tryz.underlying75, MapKept.run_getObj_map h1, run_checkKey_int, Instr.findKey, run_underlying Tryz.underlying3, hfn, g2]

theorem put_int {w : World} {bm : Nat} {f : Int → Bool} (h : WMap w bm f) (k : Int) (b : Bool) :
    ∃ o, (Instr.mapUpdate 75 (.map (some bm)) (.int .i64 k) (.bool b)).run Tryz.prog w = .ok () (World.putMap w bm o) ∧ WMap (World.putMap w bm o) bm (updI f k b) := by
  have hl := h.lt
  obtain ⟨es, clock, ps, h1, h2, h3⟩ := h
  have hn := findI k ps es.toList 0 h2
  have hfk : ∀ j, lookI (setI ps k b) j = updI f k b j := fun j => by rw [lookI_setI]; unfold updI; rw [h3 j]
  revert hn
  rcases hfn : Instr.findNow (.int .i64) (.int .i64 k) es.toList 0 with _ | _ | ⟨j, v⟩
  · exact fun h => h.elim
  · rintro ⟨g1, g2⟩
    refine ⟨.map (es.push { key := .int .i64 k, val := .bool b, born := clock }) (clock + 1), ?_, es.push { key := .int .i64 k, val := .bool b, born := clock }, clock + 1, setI ps k b, ?_, ?_, hfk⟩
    · simp [Instr.mapUpdate, run_underlying Tryz.underlying75, MapKept.run_getObj_map h1, run_checkKey_int, Instr.findKey, run_underlying Tryz.underlying3, hfn, MapKept.run_setObj_map _ h1, World.putMap]
    · simp only [World.putMap]
      rw [Array.getElem?_setIfInBounds, if_pos rfl, if_pos hl]
    · rw [Array.toList_push]
      exact g2 _ b rfl rfl
  · rintro ⟨q, g1, g2, g3, g4⟩
    obtain rfl : j = q := by omega
    have hkey : (((es[j]?).map (·.key)).getD (.int .i64 k)) = .int .i64 k := by
      rw [Array.getElem?_toList] at g3
      rw [g3]; rfl
    refine ⟨.map (es.modify j fun e => { e with key := .int .i64 k, val := .bool b }) clock, ?_, es.modify j fun e => { e with key := .int .i64 k, val := .bool b }, clock, setI ps k b, ?_, ?_, hfk⟩
    · simp [Instr.mapUpdate, run_underlying Tryz.underlying75, MapKept.run_getObj_map h1, run_checkKey_int, Instr.findKey, run_underlying Tryz.underlying3, hfn, hkey, run_keyStays _ (same_int k), MapKept.run_setObj_map _ h1, World.putMap]
    · simp only [World.putMap]
      rw [Array.getElem?_setIfInBounds, if_pos rfl, if_pos hl]
    · rw [Array.toList_modify]
      exact g4 _ b fun e => ⟨rfl, rfl⟩

theorem wmap_new (w : World) : WMap (w.alloc (.map #[] 0)) w.heap.size fun _ => false :=
  ⟨#[], 0, [], heap_alloc_new _ _, trivial, fun _ => rfl⟩
end Go.Proofs.YtgaaehpmbkjhlaaGreatDoor
