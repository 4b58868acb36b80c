/- The options of settings: what lies in memory while impl.optionsOf makes them. -/
import Derived.Test.YtgaaehpmbkjhlaaGreatDoorWAdd
import Derived.Deep.CutRange
namespace Go.Proofs.YtgaaehpmbkjhlaaGreatDoor
open Go Go.RowKit

/-- An option: the closure's function, the variable that it holds, what that one holds, the texts where it is a list of texts. -/
structure Opt where
  fn : Nat
  b : Option Nat
  x : Value
  ss : List ByteArray
def Opt.caps (o : Opt) : Array Value := match o.b with | none => #[] | some b => #[.pointer (some ⟨b, 0, none⟩)]
def Opt.val (o : Opt) : Value := .func (.func o.fn) #[] o.caps

/-- What an option does to the validator's fields. -/
def Opt.eff (o : Opt) (d : Nat → Value) : Nat → Value :=
  if o.fn = 83 then setD d 1 o.x else if o.fn = 84 then setD d 0 o.x else if o.fn = 86 then setD (setD d 5 o.x) 6 (.bool true) else if o.fn = 87 then setD d 5 o.x
  else if o.fn = 88 then setD d 7 o.x else if o.fn = 89 then setD d 8 o.x else if o.fn = 90 then setD d 2 (.bool true) else if o.fn = 91 then setD d 3 (.bool true) else if o.fn = 92 then setD d 4 (.bool true) else d
def effs (os : List Opt) (d : Nat → Value) : Nat → Value := os.foldl (fun d o => o.eff d) d
theorem effs_snoc (os : List Opt) (o : Opt) (d : Nat → Value) : effs (os ++ [o]) d = o.eff (effs os d) := by unfold effs; rw [List.foldl_append]; rfl

/-- The shapes of what the variables hold. -/
inductive Opt.Shape : Opt → Prop
  | time (b bs : Nat) (ss : List ByteArray) : Shape ⟨83, some b, .func (.func 50) #[] #[.pointer (some ⟨bs, 0, none⟩)], ss⟩
  | lee (b : Nat) (n : Int) (ss : List ByteArray) : Shape ⟨84, some b, .int .i64 n, ss⟩
  | methods (b : Nat) (a : Option Addr) (n c : Nat) (ss : List ByteArray) : Shape ⟨85, some b, .slice a n c, ss⟩
  | all (b : Nat) (a : Option Addr) (n c : Nat) (ss : List ByteArray) : Shape ⟨86, some b, .slice a n c, ss⟩
  | aud (b : Nat) (a : Option Addr) (n c : Nat) (ss : List ByteArray) : Shape ⟨87, some b, .slice a n c, ss⟩
  | iss (b : Nat) (s : ByteArray) (ss : List ByteArray) : Shape ⟨88, some b, .string s, ss⟩
  | sub (b : Nat) (s : ByteArray) (ss : List ByteArray) : Shape ⟨89, some b, .string s, ss⟩
  | flag (fn : Nat) (h : fn = 90 ∨ fn = 91 ∨ fn = 92 ∨ fn = 93 ∨ fn = 94 ∨ fn = 95) (x : Value) (ss : List ByteArray) : Shape ⟨fn, none, x, ss⟩

theorem owns_heap {w w' : World} {base : Nat} {e : TypeId} {size : Nat} {v : Value} {n : Nat} {xs : List Value} (h : w.ownsRow base e size v n xs) (hb : ∀ g, v.ownBlock = some g → w'.heap[g]? = w.heap[g]?) : w'.ownsRow base e size v n xs := by
  refine ⟨h.1, ?_⟩
  rcases h.2 with h0 | ⟨g, cap, cur, hv, hg, hh, rest⟩
  · exact .inl h0
  · exact .inr ⟨g, cap, cur, hv, hg, (hb g (by rw [hv]; rfl)).trans hh, rest⟩

/-- An option lies in memory, safe from the list's growth. -/
structure Opt.At (o : Opt) (w : World) (bo : Nat) : Prop where
  shape : o.Shape
  box : ∀ b, o.b = some b → Safe w bo b ∧ w.cell? ⟨b, 0, none⟩ = some o.x
  row : (o.fn = 86 ∨ o.fn = 87) → w.ownsRow 0 9 1 o.x o.ss.length (o.ss.map Value.string) ∧ ∀ g, o.x.ownBlock = some g → Safe w bo g

theorem Opt.At.step {o : Opt} {w w' : World} {bo : Nat} (h : o.At w bo) (st : Step bo w w') : o.At w' bo :=
  ⟨h.shape, fun b hb => ⟨(st.keep b (h.box b hb).1).1, (h.box b hb).1.cell (a := ⟨b, 0, none⟩) st (h.box b hb).2⟩,
    fun hf => ⟨owns_heap (h.row hf).1 (fun g hg => (st.keep g ((h.row hf).2 g hg)).2), fun g hg => (st.keep g ((h.row hf).2 g hg)).1⟩⟩

/-- What lies in memory while the options are made. -/
structure OSt (B : Nat) (s : St) (bs bo : Nat) (os : List Opt) (w0 w : World) : Prop where
  out : ∃ sl, OutAt w B bo sl (os.map Opt.val)
  set : Safe w bo bs
  cells : w.heap[bs]? = some (.cells s.vals 38 (0, 0))
  opts : ∀ o ∈ os, o.At w bo
  below : Below B w0 w

theorem OSt.bo_lt {B : Nat} {s : St} {bs bo : Nat} {os : List Opt} {w0 w : World} (h : OSt B s bs bo os w0 w) : bo < w.heap.size := let ⟨_, ho⟩ := h.out; lt_of_block ho.blk
theorem OSt.le_bo {B : Nat} {s : St} {bs bo : Nat} {os : List Opt} {w0 w : World} (h : OSt B s bs bo os w0 w) : B ≤ bo := let ⟨_, ho⟩ := h.out; ho.le
theorem OSt.more {B : Nat} {s : St} {bs bo : Nat} {os : List Opt} {w0 w w' : World} (h : OSt B s bs bo os w0 w) (hb : Below w.heap.size w w') : OSt B s bs bo os w0 w' := by
  have st := Step.of_below h.bo_lt hb
  obtain ⟨sl, ho⟩ := h.out
  exact ⟨⟨sl, ho.below hb⟩, (st.keep _ h.set).1, (st.keep _ h.set).2.trans h.cells, fun o ho => (h.opts o ho).step st, h.below.trans (hb.mono (by have := lt_of_block ho.blk; have := ho.le; omega))⟩

/-- Behind the closure's call. -/
theorem OSt.added {B : Nat} {s : St} {bs bo : Nat} {os : List Opt} {w0 w w' : World} {o : Opt} {e : Ending} (h : OSt B s bs bo os w0 w) (ho : o.At w bo) (b : Bool)
    (hg : GivesAdd B bo (if b then os.map Opt.val ++ [o.val] else os.map Opt.val) w e w') : OSt B s bs bo (if b then os ++ [o] else os) w0 w' := by
  obtain ⟨_, ho', st, hb⟩ := hg
  refine ⟨?_, (st.keep _ h.set).1, (st.keep _ h.set).2.trans h.cells, ?_, h.below.trans hb⟩
  · cases b
    · simpa using ho'
    · simpa using ho'
  · intro q hq
    cases b
    · exact (h.opts q (by simpa using hq)).step st
    · simp at hq
      rcases hq with hq | rfl
      · exact (h.opts q hq).step st
      · exact ho.step st

theorem OSt.cell {B : Nat} {s : St} {bs bo : Nat} {os : List Opt} {w0 w : World} (h : OSt B s bs bo os w0 w) (i : Nat) (x : Value) (hx : s.vals[i]? = some x) : w.cell? ⟨bs, i, none⟩ = some x := by
  simp [World.cell?, h.cells, hx]

theorem with52 (n : Int) (w : World) : Calls Tryz.prog 52 #[.int .i64 n] w fun e w' => e = .returned (.func (.func 84) #[] #[.pointer (some ⟨w.heap.size, 0, none⟩)]) ∧ w' = w.alloc (.cells #[.int .i64 n] 100) := by
  go_enter Tryz.func52, Tryz.ntmps52
  go_wp2
  go_ret
  exact ⟨rfl, rfl⟩
theorem with54 (a : Option Addr) (n c : Nat) (w : World) : Calls Tryz.prog 54 #[.slice a n c] w fun e w' => e = .returned (.func (.func 85) #[] #[.pointer (some ⟨w.heap.size, 0, none⟩)]) ∧ w' = w.alloc (.cells #[.slice a n c] 24) := by
  go_enter Tryz.func54, Tryz.ntmps54
  go_wp2
  go_ret
  exact ⟨rfl, rfl⟩
theorem with55 (a : Option Addr) (n c : Nat) (w : World) : Calls Tryz.prog 55 #[.slice a n c] w fun e w' => e = .returned (.func (.func 86) #[] #[.pointer (some ⟨w.heap.size, 0, none⟩)]) ∧ w' = w.alloc (.cells #[.slice a n c] 24) := by
  go_enter Tryz.func55, Tryz.ntmps55
  go_wp2
  go_ret
  exact ⟨rfl, rfl⟩
theorem with56 (a : Option Addr) (n c : Nat) (w : World) : Calls Tryz.prog 56 #[.slice a n c] w fun e w' => e = .returned (.func (.func 87) #[] #[.pointer (some ⟨w.heap.size, 0, none⟩)]) ∧ w' = w.alloc (.cells #[.slice a n c] 24) := by
  go_enter Tryz.func56, Tryz.ntmps56
  go_wp2
  go_ret
  exact ⟨rfl, rfl⟩
theorem with57 (s : ByteArray) (w : World) : Calls Tryz.prog 57 #[.string s] w fun e w' => e = .returned (.func (.func 88) #[] #[.pointer (some ⟨w.heap.size, 0, none⟩)]) ∧ w' = w.alloc (.cells #[.string s] 9) := by
  go_enter Tryz.func57, Tryz.ntmps57
  go_wp2
  go_ret
  exact ⟨rfl, rfl⟩
theorem with58 (s : ByteArray) (w : World) : Calls Tryz.prog 58 #[.string s] w fun e w' => e = .returned (.func (.func 89) #[] #[.pointer (some ⟨w.heap.size, 0, none⟩)]) ∧ w' = w.alloc (.cells #[.string s] 9) := by
  go_enter Tryz.func58, Tryz.ntmps58
  go_wp2
  go_ret
  exact ⟨rfl, rfl⟩
theorem with49 (bs : Nat) (w : World) : Calls Tryz.prog 49 #[.func (.func 50) #[] #[.pointer (some ⟨bs, 0, none⟩)]] w fun e w' => e = .returned (.func (.func 83) #[] #[.pointer (some ⟨w.heap.size, 0, none⟩)]) ∧ w' = w.alloc (.cells #[.func (.func 50) #[] #[.pointer (some ⟨bs, 0, none⟩)]] 98) := by
  go_enter Tryz.func49, Tryz.ntmps49
  go_wp2
  go_ret
  exact ⟨rfl, rfl⟩
theorem with59 (w : World) : Calls Tryz.prog 59 #[] w fun e w' => e = .returned (.func (.func 90) #[] #[]) ∧ w' = w := by
  go_enter Tryz.func59, Tryz.ntmps59
  go_wp2
  go_ret
  exact ⟨rfl, rfl⟩
theorem with60 (w : World) : Calls Tryz.prog 60 #[] w fun e w' => e = .returned (.func (.func 91) #[] #[]) ∧ w' = w := by
  go_enter Tryz.func60, Tryz.ntmps60
  go_wp2
  go_ret
  exact ⟨rfl, rfl⟩
theorem with61 (w : World) : Calls Tryz.prog 61 #[] w fun e w' => e = .returned (.func (.func 92) #[] #[]) ∧ w' = w := by
  go_enter Tryz.func61, Tryz.ntmps61
  go_wp2
  go_ret
  exact ⟨rfl, rfl⟩
theorem with62 (w : World) : Calls Tryz.prog 62 #[] w fun e w' => e = .returned (.func (.func 93) #[] #[]) ∧ w' = w := by
  go_enter Tryz.func62, Tryz.ntmps62
  go_wp2
  go_ret
  exact ⟨rfl, rfl⟩
theorem with63 (w : World) : Calls Tryz.prog 63 #[] w fun e w' => e = .returned (.func (.func 94) #[] #[]) ∧ w' = w := by
  go_enter Tryz.func63, Tryz.ntmps63
  go_wp2
  go_ret
  exact ⟨rfl, rfl⟩
theorem with64 (w : World) : Calls Tryz.prog 64 #[] w fun e w' => e = .returned (.func (.func 95) #[] #[]) ∧ w' = w := by
  go_enter Tryz.func64, Tryz.ntmps64
  go_wp2
  go_ret
  exact ⟨rfl, rfl⟩
end Go.Proofs.YtgaaehpmbkjhlaaGreatDoor
