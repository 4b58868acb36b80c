/- impl.optionsOf makes the options of settings. -/
import Derived.Test.YtgaaehpmbkjhlaaGreatDoorWOpts
namespace Go.Proofs.YtgaaehpmbkjhlaaGreatDoor
open Go Go.RowKit
attribute [local go_sem ↓] Go.wp_at_zero Go.wp_at_succ

def tfOf (bs : Nat) : Value := .func (.func 50) #[] #[.pointer (some ⟨bs, 0, none⟩)]
def d0 : Nat → Value := fun i => if i = 0 then .int .i64 0 else if i = 1 then .nilFunc else if i = 5 then .slice none 0 0 else if i = 7 ∨ i = 8 then .string ByteArray.empty else .bool false


theorem heap_at (W : World) (o : Obj) {n : Nat} (h : W.heap.size = n) : (W.alloc o).heap[n]? = some o := by subst h; exact heap_alloc_new _ _
theorem heap_up {W : World} {o p : Obj} {n : Nat} (h : W.heap[n]? = some p) : (W.alloc o).heap[n]? = some p := (Below.heap_alloc _ _ _ (lt_of_block h)).trans h
theorem size_up (W : World) (o : Obj) {n : Nat} (h : W.heap.size = n) : (W.alloc o).heap.size = n + 1 := by subst h; simp
theorem heap4 (W : World) (n : Nat) (hn : W.heap.size = n) (o1 o2 o3 o4 : Obj) :
    ((((W.alloc o1).alloc o2).alloc o3).alloc o4).heap[n]? = some o1 ∧ ((((W.alloc o1).alloc o2).alloc o3).alloc o4).heap[n + 1]? = some o2 ∧
    ((((W.alloc o1).alloc o2).alloc o3).alloc o4).heap[n + 1 + 1]? = some o3 ∧ ((((W.alloc o1).alloc o2).alloc o3).alloc o4).heap[n + 1 + 1 + 1]? = some o4 :=
  ⟨heap_up (heap_up (heap_up (heap_at W o1 hn))), heap_up (heap_up (heap_at _ o2 (size_up W o1 hn))), heap_up (heap_at _ o3 (size_up _ o2 (size_up W o1 hn))), heap_at _ o4 (size_up _ o3 (size_up _ o2 (size_up W o1 hn)))⟩

def startOpts (bs b1 b2 : Nat) (n : Int) : List Opt := [⟨83, some b1, tfOf bs, []⟩, ⟨84, some b2, .int .i64 n, []⟩]

theorem ost_start {s : St} {w W1 X : World} {bo b1 b2 g : Nat} (hb : Below w.heap.size w W1) (hs : W1.heap.size = w.heap.size + 1) (hh : W1.heap[w.heap.size]? = some (.cells s.vals 38 (0, 0)))
    (hX : Below W1.heap.size W1 X) (h0 : X.heap[bo]? = some (.cells #[.slice (some ⟨g, 0, none⟩) 2 2] 72 (0, 0))) (h1 : X.heap[b1]? = some (.cells #[tfOf w.heap.size] 98 (0, 0))) (h2 : X.heap[b2]? = some (.cells #[.int .i64 s.leeway] 100 (0, 0)))
    (h3 : X.heap[g]? = some (.cells #[.func (.func 83) #[] #[.pointer (some ⟨b1, 0, none⟩)], .func (.func 84) #[] #[.pointer (some ⟨b2, 0, none⟩)]] 95 (0, 0)))
    (l0 : W1.heap.size ≤ bo) (l1 : W1.heap.size ≤ b1) (l2 : W1.heap.size ≤ b2) (l3 : W1.heap.size ≤ g) (n1 : b1 ≠ bo) (n2 : b2 ≠ bo) (n3 : g ≠ bo) (n4 : b1 ≠ g) (n5 : b2 ≠ g) :
    OSt w.heap.size s w.heap.size bo (startOpts w.heap.size b1 b2 s.leeway) w X := by
  have hsafe : ∀ k, k < X.heap.size → k ≠ bo → k ≠ g → Safe X bo k := fun k hk h h' => ⟨hk, h, fun sl hsl e => by
    rw [h0] at hsl
    obtain rfl : Value.slice (some ⟨g, 0, none⟩) 2 2 = sl := by simpa using hsl
    exact h' (by simpa [Value.ownBlock] using e.symm)⟩
  refine ⟨⟨_, h0, ⟨rfl, .inr ⟨g, 2, _, rfl, by omega, h3, ?_⟩⟩, ?_, by omega⟩, hsafe _ (by have := hX.size; omega) (by omega) (by omega), (hX.block _ (by omega)).trans hh, ?_, hb.trans (hX.mono (by omega))⟩
  · exact ⟨by simp [startOpts], by decide, rfl, rfl⟩
  · intro e; exact n3 (by simpa [Value.ownBlock] using e)
  · intro o ho
    simp [startOpts] at ho
    rcases ho with rfl | rfl
    · exact ⟨.time _ _ _, fun b hb => by obtain rfl : b1 = b := by simpa using hb
                                         exact ⟨hsafe _ (lt_of_block h1) n1 n4, cell_of_one h1⟩, fun h => by simp at h⟩
    · exact ⟨.lee _ _ _, fun b hb => by obtain rfl : b2 = b := by simpa using hb
                                        exact ⟨hsafe _ (lt_of_block h2) n2 n5, cell_of_one h2⟩, fun h => by simp at h⟩

theorem ost_leaf0 {s : St} {w W1 : World} (hb : Below w.heap.size w W1) (hs : W1.heap.size = w.heap.size + 1) (hh : W1.heap[w.heap.size]? = some (.cells s.vals 38 (0, 0))) :
    OSt w.heap.size s w.heap.size (w.heap.size + 1 + 1 + 1 + 1) (startOpts w.heap.size (w.heap.size + 1) (w.heap.size + 1 + 1) s.leeway) w ((((W1.alloc (.cells #[.func (.func 50) #[] #[.pointer (some ⟨w.heap.size, 0, none⟩)]] 98)).alloc (.cells #[.int .i64 s.leeway] 100)).alloc (.cells #[.func (.func 83) #[] #[.pointer (some ⟨w.heap.size + 1, 0, none⟩)], .func (.func 84) #[] #[.pointer (some ⟨w.heap.size + 1 + 1, 0, none⟩)]] 95)).alloc (.cells #[.slice (some ⟨w.heap.size + 1 + 1 + 1, 0, none⟩) 2 2] 72)).drew := by
  have H := heap4 W1 (w.heap.size + 1) hs (.cells #[.func (.func 50) #[] #[.pointer (some ⟨w.heap.size, 0, none⟩)]] 98) (.cells #[.int .i64 s.leeway] 100) (.cells #[.func (.func 83) #[] #[.pointer (some ⟨w.heap.size + 1, 0, none⟩)], .func (.func 84) #[] #[.pointer (some ⟨w.heap.size + 1 + 1, 0, none⟩)]] 95) (.cells #[.slice (some ⟨w.heap.size + 1 + 1 + 1, 0, none⟩) 2 2] 72)
  have hX : Below W1.heap.size W1 ((((W1.alloc (.cells #[.func (.func 50) #[] #[.pointer (some ⟨w.heap.size, 0, none⟩)]] 98)).alloc (.cells #[.int .i64 s.leeway] 100)).alloc (.cells #[.func (.func 83) #[] #[.pointer (some ⟨w.heap.size + 1, 0, none⟩)], .func (.func 84) #[] #[.pointer (some ⟨w.heap.size + 1 + 1, 0, none⟩)]] 95)).alloc (.cells #[.slice (some ⟨w.heap.size + 1 + 1 + 1, 0, none⟩) 2 2] 72)).drew := by go_grown
  exact ost_start (g := w.heap.size + 1 + 1 + 1) hb hs hh hX H.2.2.2 H.1 H.2.1 H.2.2.1 (by omega) (by omega) (by omega) (by omega) (by omega) (by omega) (by omega) (by omega) (by omega)

theorem ost_leaf1 {s : St} {w W1 : World} (hb : Below w.heap.size w W1) (hs : W1.heap.size = w.heap.size + 1) (hh : W1.heap[w.heap.size]? = some (.cells s.vals 38 (0, 0))) :
    OSt w.heap.size s w.heap.size (w.heap.size + 1 + 1 + 1) (startOpts w.heap.size (w.heap.size + 1) (w.heap.size + 1 + 1) s.leeway) w ((((W1.alloc (.cells #[.func (.func 50) #[] #[.pointer (some ⟨w.heap.size, 0, none⟩)]] 98)).alloc (.cells #[.int .i64 s.leeway] 100)).alloc (.cells #[.slice (some ⟨w.heap.size + 1 + 1 + 1 + 1, 0, none⟩) 2 2] 72)).alloc (.cells #[.func (.func 83) #[] #[.pointer (some ⟨w.heap.size + 1, 0, none⟩)], .func (.func 84) #[] #[.pointer (some ⟨w.heap.size + 1 + 1, 0, none⟩)]] 95)).drew := by
  have H := heap4 W1 (w.heap.size + 1) hs (.cells #[.func (.func 50) #[] #[.pointer (some ⟨w.heap.size, 0, none⟩)]] 98) (.cells #[.int .i64 s.leeway] 100) (.cells #[.slice (some ⟨w.heap.size + 1 + 1 + 1 + 1, 0, none⟩) 2 2] 72) (.cells #[.func (.func 83) #[] #[.pointer (some ⟨w.heap.size + 1, 0, none⟩)], .func (.func 84) #[] #[.pointer (some ⟨w.heap.size + 1 + 1, 0, none⟩)]] 95)
  have hX : Below W1.heap.size W1 ((((W1.alloc (.cells #[.func (.func 50) #[] #[.pointer (some ⟨w.heap.size, 0, none⟩)]] 98)).alloc (.cells #[.int .i64 s.leeway] 100)).alloc (.cells #[.slice (some ⟨w.heap.size + 1 + 1 + 1 + 1, 0, none⟩) 2 2] 72)).alloc (.cells #[.func (.func 83) #[] #[.pointer (some ⟨w.heap.size + 1, 0, none⟩)], .func (.func 84) #[] #[.pointer (some ⟨w.heap.size + 1 + 1, 0, none⟩)]] 95)).drew := by go_grown
  exact ost_start (g := w.heap.size + 1 + 1 + 1 + 1) hb hs hh hX H.2.2.1 H.1 H.2.1 H.2.2.2 (by omega) (by omega) (by omega) (by omega) (by omega) (by omega) (by omega) (by omega) (by omega)

theorem ost_leaf2 {s : St} {w W1 : World} (hb : Below w.heap.size w W1) (hs : W1.heap.size = w.heap.size + 1) (hh : W1.heap[w.heap.size]? = some (.cells s.vals 38 (0, 0))) :
    OSt w.heap.size s w.heap.size (w.heap.size + 1 + 1) (startOpts w.heap.size (w.heap.size + 1) (w.heap.size + 1 + 1 + 1) s.leeway) w ((((W1.alloc (.cells #[.func (.func 50) #[] #[.pointer (some ⟨w.heap.size, 0, none⟩)]] 98)).alloc (.cells #[.slice (some ⟨w.heap.size + 1 + 1 + 1 + 1, 0, none⟩) 2 2] 72)).alloc (.cells #[.int .i64 s.leeway] 100)).alloc (.cells #[.func (.func 83) #[] #[.pointer (some ⟨w.heap.size + 1, 0, none⟩)], .func (.func 84) #[] #[.pointer (some ⟨w.heap.size + 1 + 1 + 1, 0, none⟩)]] 95)).drew := by
  have H := heap4 W1 (w.heap.size + 1) hs (.cells #[.func (.func 50) #[] #[.pointer (some ⟨w.heap.size, 0, none⟩)]] 98) (.cells #[.slice (some ⟨w.heap.size + 1 + 1 + 1 + 1, 0, none⟩) 2 2] 72) (.cells #[.int .i64 s.leeway] 100) (.cells #[.func (.func 83) #[] #[.pointer (some ⟨w.heap.size + 1, 0, none⟩)], .func (.func 84) #[] #[.pointer (some ⟨w.heap.size + 1 + 1 + 1, 0, none⟩)]] 95)
  have hX : Below W1.heap.size W1 ((((W1.alloc (.cells #[.func (.func 50) #[] #[.pointer (some ⟨w.heap.size, 0, none⟩)]] 98)).alloc (.cells #[.slice (some ⟨w.heap.size + 1 + 1 + 1 + 1, 0, none⟩) 2 2] 72)).alloc (.cells #[.int .i64 s.leeway] 100)).alloc (.cells #[.func (.func 83) #[] #[.pointer (some ⟨w.heap.size + 1, 0, none⟩)], .func (.func 84) #[] #[.pointer (some ⟨w.heap.size + 1 + 1 + 1, 0, none⟩)]] 95)).drew := by go_grown
  exact ost_start (g := w.heap.size + 1 + 1 + 1 + 1) hb hs hh hX H.2.1 H.1 H.2.2.1 H.2.2.2 (by omega) (by omega) (by omega) (by omega) (by omega) (by omega) (by omega) (by omega) (by omega)

theorem ost_leaf3 {s : St} {w W1 : World} (hb : Below w.heap.size w W1) (hs : W1.heap.size = w.heap.size + 1) (hh : W1.heap[w.heap.size]? = some (.cells s.vals 38 (0, 0))) :
    OSt w.heap.size s w.heap.size (w.heap.size + 1) (startOpts w.heap.size (w.heap.size + 1 + 1) (w.heap.size + 1 + 1 + 1) s.leeway) w ((((W1.alloc (.cells #[.slice (some ⟨w.heap.size + 1 + 1 + 1 + 1, 0, none⟩) 2 2] 72)).alloc (.cells #[.func (.func 50) #[] #[.pointer (some ⟨w.heap.size, 0, none⟩)]] 98)).alloc (.cells #[.int .i64 s.leeway] 100)).alloc (.cells #[.func (.func 83) #[] #[.pointer (some ⟨w.heap.size + 1 + 1, 0, none⟩)], .func (.func 84) #[] #[.pointer (some ⟨w.heap.size + 1 + 1 + 1, 0, none⟩)]] 95)).drew := by
  have H := heap4 W1 (w.heap.size + 1) hs (.cells #[.slice (some ⟨w.heap.size + 1 + 1 + 1 + 1, 0, none⟩) 2 2] 72) (.cells #[.func (.func 50) #[] #[.pointer (some ⟨w.heap.size, 0, none⟩)]] 98) (.cells #[.int .i64 s.leeway] 100) (.cells #[.func (.func 83) #[] #[.pointer (some ⟨w.heap.size + 1 + 1, 0, none⟩)], .func (.func 84) #[] #[.pointer (some ⟨w.heap.size + 1 + 1 + 1, 0, none⟩)]] 95)
  have hX : Below W1.heap.size W1 ((((W1.alloc (.cells #[.slice (some ⟨w.heap.size + 1 + 1 + 1 + 1, 0, none⟩) 2 2] 72)).alloc (.cells #[.func (.func 50) #[] #[.pointer (some ⟨w.heap.size, 0, none⟩)]] 98)).alloc (.cells #[.int .i64 s.leeway] 100)).alloc (.cells #[.func (.func 83) #[] #[.pointer (some ⟨w.heap.size + 1 + 1, 0, none⟩)], .func (.func 84) #[] #[.pointer (some ⟨w.heap.size + 1 + 1 + 1, 0, none⟩)]] 95)).drew := by go_grown
  exact ost_start (g := w.heap.size + 1 + 1 + 1 + 1) hb hs hh hX H.1 H.2.1 H.2.2.1 H.2.2.2 (by omega) (by omega) (by omega) (by omega) (by omega) (by omega) (by omega) (by omega) (by omega)

/-- The first options. -/
def OS1 (s : St) (bs bo n : Nat) (D : Nat → Value) (w0 w : World) : Prop := ∃ os, OSt w0.heap.size s bs bo os w0 w ∧ os.length ≤ n ∧ effs os d0 = D
/-- The options, the audience's among them. -/
def OS2 (s : St) (bs bo n : Nat) (D : Nat → Value) (w0 w : World) : Prop := ∃ os, OSt w0.heap.size s bs bo os w0 w ∧ os.length ≤ n ∧ effs os d0 = D ∧ (s.al ≠ 0 → ∃ o ∈ os, (o.fn = 86 ∨ o.fn = 87) ∧ o.ss = s.auds ∧ D 5 = o.x)

theorem OS1.add {s : St} {bs bo n : Nat} {D : Nat → Value} {w0 w1 w2 : World} {os : List Opt} {o : Opt} {e : Ending} (b : Bool) (h : OSt w0.heap.size s bs bo os w0 w1) (hn : os.length ≤ n) (hD : effs os d0 = D) (ho : o.At w1 bo)
    (hg : GivesAdd w0.heap.size bo (if b then os.map Opt.val ++ [o.val] else os.map Opt.val) w1 e w2) : OS1 s bs bo (n + 1) (if b then o.eff D else D) w0 w2 := by
  refine ⟨_, h.added ho b hg, ?_, ?_⟩
  · cases b <;> simp <;> omega
  · cases b
    · simpa using hD
    · simp [effs_snoc, hD]
theorem OS2.add {s : St} {bs bo n : Nat} {D : Nat → Value} {w0 w1 w2 : World} {os : List Opt} {o : Opt} {e : Ending} (b : Bool) (h : OSt w0.heap.size s bs bo os w0 w1) (hn : os.length ≤ n) (hD : effs os d0 = D)
    (ha : s.al ≠ 0 → ∃ o ∈ os, (o.fn = 86 ∨ o.fn = 87) ∧ o.ss = s.auds ∧ D 5 = o.x) (ho : o.At w1 bo) (h5 : o.eff D 5 = D 5)
    (hg : GivesAdd w0.heap.size bo (if b then os.map Opt.val ++ [o.val] else os.map Opt.val) w1 e w2) : OS2 s bs bo (n + 1) (if b then o.eff D else D) w0 w2 := by
  refine ⟨_, h.added ho b hg, ?_, ?_, fun hal => ?_⟩
  · cases b <;> simp <;> omega
  · cases b
    · simpa using hD
    · simp [effs_snoc, hD]
  · obtain ⟨q, hq, h1, h2, h3⟩ := ha hal
    cases b
    · exact ⟨q, by simpa using hq, h1, h2, h3⟩
    · exact ⟨q, by simp [hq], h1, h2, by simp only [if_pos]; rw [h5]; exact h3⟩
theorem OS2.cell {s : St} {bs bo n : Nat} {D : Nat → Value} {w0 w : World} (h : OS2 s bs bo n D w0 w) (i : Nat) (x : Value) (hx : s.vals[i]? = some x) : w.cell? ⟨bs, i, none⟩ = some x := let ⟨_, h1, _⟩ := h; h1.cell i x hx
theorem OS1.cell {s : St} {bs bo n : Nat} {D : Nat → Value} {w0 w : World} (h : OS1 s bs bo n D w0 w) (i : Nat) (x : Value) (hx : s.vals[i]? = some x) : w.cell? ⟨bs, i, none⟩ = some x := let ⟨_, h1, _⟩ := h; h1.cell i x hx

theorem flag_at (fn : Nat) (h : fn = 90 ∨ fn = 91 ∨ fn = 92 ∨ fn = 93 ∨ fn = 94 ∨ fn = 95) (w : World) (bo : Nat) : (⟨fn, none, .bool true, []⟩ : Opt).At w bo :=
  ⟨.flag fn h _ _, fun b hb => by simp at hb, fun hf => by simp only at hf; omega⟩
/-- An option that lies in a new variable. -/
theorem box_at {fn : Nat} {x : Value} {ss : List ByteArray} {w w1 : World} {B bo b : Nat} {sl : Value} {os : List Value} (hs : (⟨fn, some b, x, ss⟩ : Opt).Shape) (ho : OutAt w B bo sl os) (hb : Below w.heap.size w w1) (hle : w.heap.size ≤ b) (hc : w1.cell? ⟨b, 0, none⟩ = some x)
    (hr : (fn = 86 ∨ fn = 87) → w1.ownsRow w.heap.size 9 1 x ss.length (ss.map Value.string)) : (⟨fn, some b, x, ss⟩ : Opt).At w1 bo :=
  ⟨hs, fun b' hb' => by obtain rfl : b = b' := by simpa using hb'
                        exact ⟨Safe.new ho hb hle (World.block_lt_of_cell? w1 _ hc), hc⟩,
    fun hf => ⟨owns_base (hr hf), fun g hg => Safe.new ho hb ((hr hf).lt g hg).1 ((hr hf).lt g hg).2⟩⟩

/-- slices.Clone of texts. -/
theorem clone_any (a : Option Addr) (n cap : Nat) (ss : List ByteArray) (w : World) (h : StrsAt w a n ss) (hn : n ≤ 1000) :
    Calls Tryz.prog 26 #[.slice a n cap] w fun e w' => ∃ a' n' c', e = .returned (.slice a' n' c') ∧ w'.ownsRow w.heap.size 9 1 (.slice a' n' c') ss.length (ss.map Value.string) ∧ Below w.heap.size w w' := by
  by_cases h0 : n = 0
  · subst h0
    obtain rfl := List.eq_nil_of_length_eq_zero h.1
    cases a with
    | none =>
      have he := fun w => Lib.run_eql_slice_nil (P := Tryz.prog) w 24 9 none 0 cap 0 0 Tryz.underlying24
      go_enter Tryz.func26, Tryz.ntmps26
      go_wp2
      go_ret
      exact ⟨_, _, _, rfl, World.ownsRow_nil _ _ _ _, Below.refl _ _⟩
    | some ad =>
      refine (clone_some ad 0 cap [] w rfl (fun j u hu => by simp at hu) (by decide)).mono ?_
      rintro e w' ⟨sl, rfl, hown, hb⟩
      rcases hown.2 with ⟨rfl, _⟩ | ⟨g, c, cur, rfl, _⟩
      · exact ⟨_, _, _, rfl, hown, hb⟩
      · exact ⟨_, _, _, rfl, hown, hb⟩
  · obtain ⟨hl, hs⟩ := h
    obtain ⟨b, o, rfl, _, hc⟩ := hs h0
    refine (clone_some ⟨b, o, none⟩ n cap ss w hl (fun j u hu => ?_) hn).mono ?_
    · obtain ⟨hj, e⟩ := List.getElem?_eq_some_iff.1 hu
      rw [Addr.add_mid]
      rw [hc j (by simpa using hj)]
      simpa using e
    · rintro e w' ⟨sl, rfl, hown, hb⟩
      rcases hown.2 with ⟨rfl, _⟩ | ⟨g, c, cur, rfl, _⟩
      · exact ⟨_, _, _, rfl, hown, hb⟩
      · exact ⟨_, _, _, rfl, hown, hb⟩

theorem OS12.add {s : St} {bs bo n : Nat} {D : Nat → Value} {w0 w1 w2 : World} {os : List Opt} {o : Opt} {e : Ending} (b : Bool) (hbal : s.al ≠ 0 → b = true) (h : OSt w0.heap.size s bs bo os w0 w1) (hn : os.length ≤ n) (hD : effs os d0 = D) (ho : o.At w1 bo)
    (hf : o.fn = 86 ∨ o.fn = 87) (hss : o.ss = s.auds) (hg : GivesAdd w0.heap.size bo (if b then os.map Opt.val ++ [o.val] else os.map Opt.val) w1 e w2) : OS2 s bs bo (n + 1) (if b then o.eff D else D) w0 w2 := by
  obtain ⟨os', h1, h2, h3⟩ := OS1.add b h hn hD ho hg
  refine ⟨_, h.added ho b hg, ?_, ?_, fun hal => ?_⟩
  · cases b <;> simp <;> omega
  · cases b
    · simpa using hD
    · simp [effs_snoc, hD]
  · obtain rfl := hbal hal
    refine ⟨o, by simp, hf, hss, ?_⟩
    rcases hf with hf | hf <;> simp [Opt.eff, hf, setD]

/-- The fields that the settings ask. -/
structure Dok (s : St) (bs : Nat) (D : Nat → Value) : Prop where
  lee : D 0 = .int .i64 s.leeway
  tf : D 1 = tfOf bs
  nexp : D 2 = .bool s.nexp
  nnbf : D 3 = .bool s.nnbf
  iat : D 4 = .bool s.iat
  none : s.al = 0 → D 5 = .slice none 0 0
  all : s.al ≠ 0 → D 6 = .bool s.all
  iss : D 7 = .string s.iss
  sub : D 8 = .string s.sub

theorem set_if {D D' : Nat → Value} {c : Bool} {j : Nat} {v : Value} (h : D' = if c then setD D j v else D) : (∀ i, i ≠ j → D' i = D i) ∧ D' j = if c then v else D j := by
  subst h
  cases c
  · exact ⟨fun _ _ => rfl, rfl⟩
  · exact ⟨fun i hi => by simp [setD, hi], by simp [setD]⟩

theorem dok {s : St} {bs : Nat} {D D5 D7 D8 D9 D10 D11 D12 D13 D14 : Nat → Value} (h0 : D = setD (setD d0 1 (tfOf bs)) 0 (.int .i64 s.leeway))
    (ha : ∀ i, i ≠ 5 → i ≠ 6 → D5 i = D i) (hb : s.al = 0 → D5 = D) (hc : s.al ≠ 0 → D5 6 = if s.all then .bool true else D 6)
    (h7 : D7 = if (!(s.iss.toList == [])) then setD D5 7 (.string s.iss) else D5) (h8 : D8 = if (!(s.sub.toList == [])) then setD D7 8 (.string s.sub) else D7)
    (h9 : D9 = if s.nexp then setD D8 2 (.bool true) else D8) (h10 : D10 = if s.nnbf then setD D9 3 (.bool true) else D9) (h11 : D11 = if s.iat then setD D10 4 (.bool true) else D10)
    (h12 : D12 = if s.un then D11 else D11) (h13 : D13 = if s.pad then D12 else D12) (h14 : D14 = if s.str then D13 else D13) : Dok s bs D14 := by
  obtain ⟨k7, e7⟩ := set_if h7
  obtain ⟨k8, e8⟩ := set_if h8
  obtain ⟨k9, e9⟩ := set_if h9
  obtain ⟨k10, e10⟩ := set_if h10
  obtain ⟨k11, e11⟩ := set_if h11
  have e14 : D14 = D11 := by rw [h14, ite_self, h13, ite_self, h12, ite_self]
  rw [e14]
  clear h7 h8 h9 h10 h11 h12 h13 h14 e14
  have emp : ∀ t : ByteArray, (t.toList == []) = true → Value.string ByteArray.empty = .string t := fun t ht => by
    have : t.toList = [] := by simpa using ht
    have : t = ByteArray.empty := by
      rw [ByteArray.toList_eq] at this
      cases t; simp at this; subst this; rfl
    rw [this]
  refine ⟨?_, ?_, ?_, ?_, ?_, fun h => ?_, fun h => ?_, ?_, ?_⟩
  · rw [k11 0 (by decide), k10 0 (by decide), k9 0 (by decide), k8 0 (by decide), k7 0 (by decide), ha 0 (by decide) (by decide), h0]; rfl
  · rw [k11 1 (by decide), k10 1 (by decide), k9 1 (by decide), k8 1 (by decide), k7 1 (by decide), ha 1 (by decide) (by decide), h0]; rfl
  · rw [k11 2 (by decide), k10 2 (by decide), e9, k8 2 (by decide), k7 2 (by decide), ha 2 (by decide) (by decide), h0]; cases s.nexp <;> rfl
  · rw [k11 3 (by decide), e10, k9 3 (by decide), k8 3 (by decide), k7 3 (by decide), ha 3 (by decide) (by decide), h0]; cases s.nnbf <;> rfl
  · rw [e11, k10 4 (by decide), k9 4 (by decide), k8 4 (by decide), k7 4 (by decide), ha 4 (by decide) (by decide), h0]; cases s.iat <;> rfl
  · rw [k11 5 (by decide), k10 5 (by decide), k9 5 (by decide), k8 5 (by decide), k7 5 (by decide), hb h, h0]; rfl
  · rw [k11 6 (by decide), k10 6 (by decide), k9 6 (by decide), k8 6 (by decide), k7 6 (by decide), hc h, h0]; cases s.all <;> rfl
  · rw [k11 7 (by decide), k10 7 (by decide), k9 7 (by decide), k8 7 (by decide), e7, ha 7 (by decide) (by decide), h0]
    rcases Bool.eq_false_or_eq_true (s.iss.toList == []) with hh | hh
    · rw [hh]; exact emp _ hh
    · rw [hh]; rfl
  · rw [k11 8 (by decide), k10 8 (by decide), k9 8 (by decide), e8, k7 8 (by decide), ha 8 (by decide) (by decide), h0]
    rcases Bool.eq_false_or_eq_true (s.sub.toList == []) with hh | hh
    · rw [hh]; exact emp _ hh
    · rw [hh]; rfl

def GivesOpts (s : St) (w : World) (e : Ending) (w' : World) : Prop := ∃ bs bo sl os D, e = .returned sl ∧ OutAt w' w.heap.size bo sl (os.map Opt.val) ∧ OSt w.heap.size s bs bo os w w' ∧ os.length ≤ 20 ∧ effs os d0 = D ∧ Dok s bs D ∧ (s.al ≠ 0 → ∃ o ∈ os, (o.fn = 86 ∨ o.fn = 87) ∧ o.ss = s.auds ∧ D 5 = o.x) ∧ w.heap.size ≤ bs

set_option maxRecDepth 100000 in
set_option maxHeartbeats 8000000 in
theorem optionsOf_gives (s : St) (w : World) (h : StAt w s) (hf : FineS s) : Calls Tryz.prog 34 #[.agg s.vals] w (GivesOpts s w) := by
  have HS := Lib.hid h; clear h
  have HF := Lib.hid hf; clear hf
  have hsz : s.vals.size = 13 := rfl
  go_enter Tryz.func34, Tryz.ntmps34
  go_upto_region 1 with fail
  have hW1b := below1 w (.cells s.vals 38)
  have hW1s : (w.alloc (.cells s.vals 38)).heap.size = w.heap.size + 1 := by simp
  have hW1h : (w.alloc (.cells s.vals 38)).heap[w.heap.size]? = some (.cells s.vals 38 (0, 0)) := heap_alloc_new _ _
  have hW1c : (w.alloc (.cells s.vals 38)).cell? ⟨w.heap.size, 1, none⟩ = some (.int .i64 s.leeway) := by simp only [World.cell?, hW1h]; rfl
  generalize w.alloc (.cells s.vals 38) = W1 at hW1b hW1s hW1h hW1c ⊢
  have HW1b := Lib.hid hW1b; clear hW1b
  have HW1h := Lib.hid hW1h; clear hW1h
  have hlt1 : w.heap.size < W1.heap.size := by omega
  go_cut [3] from 5 to 10 (fun s3 wx => ∃ bo b1 b2, s3 = .pointer (some ⟨bo, 0, none⟩) ∧ OSt w.heap.size s w.heap.size bo (startOpts w.heap.size b1 b2 s.leeway) w wx)
  case first =>
    go_region_held3 (fun w' => w'.cell? ⟨w.heap.size, 1, none⟩ = some (.int .i64 s.leeway)) (first | exact (Below.cell (B := W1.heap.size) (w := W1) (by go_grown) (p := ⟨w.heap.size, 1, none⟩) hlt1).trans hW1c | go_keep)
      (first
        | (go_at_call 49; refine (with49 w.heap.size _).mono ?_; rintro e w2 ⟨rfl, rfl⟩)
        | (go_at_call 52; refine (with52 s.leeway _).mono ?_; rintro e w2 ⟨rfl, rfl⟩))
    all_goals (go_wp2_with fail; go_meet)
    case rel => exact ⟨_, _, _, rfl, ost_leaf0 HW1b.out hW1s HW1h.out⟩
    case rel => exact ⟨_, _, _, rfl, ost_leaf1 HW1b.out hW1s HW1h.out⟩
    case rel => exact ⟨_, _, _, rfl, ost_leaf2 HW1b.out hW1s HW1h.out⟩
    case rel => exact ⟨_, _, _, rfl, ost_leaf3 HW1b.out hW1s HW1h.out⟩
    case rel => exact ⟨_, _, _, rfl, ost_leaf3 HW1b.out hW1s HW1h.out⟩
  case rest =>
    obtain ⟨bo, b1, b2, rfl, hst⟩ := hcut
    clear HW1b HW1h hW1s hW1c hlt1
    have hst' : OS1 s w.heap.size bo 2 (effs (startOpts w.heap.size b1 b2 s.leeway) d0) w wc := ⟨_, hst, by simp [startOpts], rfl⟩
    clear hst
    have hD0 : (effs (startOpts w.heap.size b1 b2 s.leeway) d0) = setD (setD d0 1 (tfOf w.heap.size)) 0 (.int .i64 s.leeway) := rfl
    generalize effs (startOpts w.heap.size b1 b2 s.leeway) d0 = D at hst' hD0
    have HO := Lib.hid hst'; clear hst'
    have HD0 := Lib.hid hD0; clear hD0
    generalize hbs : w.heap.size = bs at HO HD0
    go_upto_region 3 with fail
    go_cut [] from 12 to 21 (fun wx => OS1 s bs bo 3 D w wx)
    case first =>
      have hc := HO.out.cell 2 (.slice s.ma s.ml s.mc) rfl
      have hbl := World.block_lt_of_cell? wc _ hc
      have hsa := HS.out.m
      have hle50 := HF.out.m.1
      have HC := Lib.hid HO.out
      obtain ⟨os, hos, hlen, hD⟩ := HC.out
      obtain ⟨sl, hout⟩ := hos.out
      have HOS := Lib.hid hos; clear hos
      have HOUT := Lib.hid hout; clear hout
      have HSA := Lib.hid ((hsa.below HOS.out.below).below ((Below.refl wc.heap.size wc).drew)); clear hsa
      go_region_held3 (fun w' => w'.cell? ⟨bs, 2, none⟩ = some (.slice s.ma s.ml s.mc)) (first | exact hc | exact hk1 | exact hk3 | exact hk2 | go_keep)
        (first
          | (go_at_call 26; refine (clone_any s.ma s.ml s.mc s.ms _ HSA.out (by omega)).mono ?_; rintro e w2 ⟨a', n', c', rfl, hown, hb2⟩; have hbX : Below wc.heap.size wc w2 := (Below.refl wc.heap.size wc).drew.trans hb2; have hk1 := (hbX.cell (p := ⟨bs, 2, none⟩) hbl).trans hc; have hk3 := (World.cell?_alloc_lt w2 (.cells #[.slice a' n' c'] 24) ⟨bs, 2, none⟩ (Nat.lt_of_lt_of_le hbl hbX.size)).trans hk1; have HBX := Lib.hid hbX; have HOWN := Lib.hid hown; clear hown hbX hb2)
          | (go_at_call 54; refine (with54 a' n' c' _).mono ?_; rintro e w3 ⟨rfl, rfl⟩)
          | (go_at_call 53; refine (add_tells w.heap.size bo sl (decide (0 < s.ml)) (.func 85) #[] #[.pointer (some ⟨w2.heap.size, 0, none⟩)] (os.map Opt.val) _ (HOUT.out.below (HBX.out.alloc HBX.out.size _)) (by simp; omega)).mono ?_; rintro e w4 hadd; have hOS := OS1.add (o := ⟨85, some w2.heap.size, .slice a' n' c', s.ms⟩) (decide (0 < s.ml))  (HOS.out.more (HBX.out.alloc HBX.out.size _)) hlen hD (box_at (w := wc) (.methods _ _ _ _ _) HOUT.out (HBX.out.alloc HBX.out.size _) HBX.out.size (by simp [go_sem]) (fun _ => HOWN.out.alloc _))  hadd; obtain ⟨rfl, _⟩ := hadd; have hk2 := hOS.cell 2 (.slice s.ma s.ml s.mc) rfl; have HOS2 := Lib.hid hOS; clear hOS))
      all_goals (go_wp2_with fail; go_meet)
      all_goals
        case rel =>
          simpa [Opt.eff] using HOS2.out
    case rest =>
    have HO := Lib.hid hcut; clear hcut
    have hcc := HO.out.cell 4 (.bool s.all) rfl
    obtain ⟨al, hal⟩ : ∃ al, al = s.all := ⟨_, rfl⟩
    rw [← hal] at hcc
    have HAL := Lib.hid hal; clear hal
    go_upto_if 23 with fail
    go_cut [] from 22 to 43 (fun wx => ∃ D', OS2 s bs bo 4 D' w wx ∧ (∀ i, i ≠ 5 → i ≠ 6 → D' i = D i) ∧ (s.al = 0 → D' = D) ∧ (s.al ≠ 0 → D' 6 = if s.all then .bool true else D 6))
    case first =>
      have hc := HO.out.cell 3 (.slice s.aa s.al s.ac) rfl
      have hbl := World.block_lt_of_cell? wc _ hc
      have hsa := HS.out.a
      have hle50 := HF.out.a.1
      have HC := Lib.hid HO.out
      obtain ⟨os, hos, hlen, hD⟩ := HC.out
      obtain ⟨sl, hout⟩ := hos.out
      have HOS := Lib.hid hos; clear hos
      have HOUT := Lib.hid hout; clear hout
      have HSA := Lib.hid ((hsa.below HOS.out.below).below ((Below.refl wc.heap.size wc).drew)); clear hsa
      cases al
      · go_upto_region 6 with fail
        go_region_held3 (fun w' => w'.cell? ⟨bs, 3, none⟩ = some (.slice s.aa s.al s.ac)) (first | exact hc | exact hk1 | exact hk3 | exact hk2 | go_keep)
          (first
            | (go_at_call 26; refine (clone_any s.aa s.al s.ac s.auds _ HSA.out (by omega)).mono ?_; rintro e w2 ⟨a', n', c', rfl, hown, hb2⟩; have hbX : Below wc.heap.size wc w2 := (Below.refl wc.heap.size wc).drew.trans hb2; have hk1 := (hbX.cell (p := ⟨bs, 3, none⟩) hbl).trans hc; have hk3 := (World.cell?_alloc_lt w2 (.cells #[.slice a' n' c'] 24) ⟨bs, 3, none⟩ (Nat.lt_of_lt_of_le hbl hbX.size)).trans hk1; have HBX := Lib.hid hbX; have HOWN := Lib.hid hown; clear hown hbX hb2)
            | (go_at_call 56; refine (with56 a' n' c' _).mono ?_; rintro e w3 ⟨rfl, rfl⟩)
            | (go_at_call 53; refine (add_tells w.heap.size bo sl (decide (0 < s.al)) (.func 87) #[] #[.pointer (some ⟨w2.heap.size, 0, none⟩)] (os.map Opt.val) _ (HOUT.out.below (HBX.out.alloc HBX.out.size _)) (by simp; omega)).mono ?_; rintro e w4 hadd; have hOS := OS12.add (o := ⟨87, some w2.heap.size, .slice a' n' c', s.auds⟩) (decide (0 < s.al)) (fun h => by simp; omega) (HOS.out.more (HBX.out.alloc HBX.out.size _)) hlen hD (box_at (w := wc) (.aud _ _ _ _ _) HOUT.out (HBX.out.alloc HBX.out.size _) HBX.out.size (by simp [go_sem]) (fun _ => HOWN.out.alloc _)) (.inr rfl) rfl hadd; obtain ⟨rfl, _⟩ := hadd; have hk2 := hOS.cell 3 (.slice s.aa s.al s.ac) rfl; have HOS2 := Lib.hid hOS; clear hOS))
        all_goals (go_wp2_with fail; go_meet)
        all_goals
          case rel =>
          refine ⟨_, HOS2.out, fun i h5 h6 => ?_, fun h0 => ?_, fun h0 => ?_⟩
          · by_cases hp : 0 < s.al <;> simp [hp, Opt.eff, setD, h5, h6]
          · simp [h0]
          · have hp : 0 < s.al := by omega
            simp [hp, Opt.eff, setD, ← HAL.out]

      · go_upto_region 5 with fail
        go_region_held3 (fun w' => w'.cell? ⟨bs, 3, none⟩ = some (.slice s.aa s.al s.ac)) (first | exact hc | exact hk1 | exact hk3 | exact hk2 | go_keep)
          (first
            | (go_at_call 26; refine (clone_any s.aa s.al s.ac s.auds _ HSA.out (by omega)).mono ?_; rintro e w2 ⟨a', n', c', rfl, hown, hb2⟩; have hbX : Below wc.heap.size wc w2 := (Below.refl wc.heap.size wc).drew.trans hb2; have hk1 := (hbX.cell (p := ⟨bs, 3, none⟩) hbl).trans hc; have hk3 := (World.cell?_alloc_lt w2 (.cells #[.slice a' n' c'] 24) ⟨bs, 3, none⟩ (Nat.lt_of_lt_of_le hbl hbX.size)).trans hk1; have HBX := Lib.hid hbX; have HOWN := Lib.hid hown; clear hown hbX hb2)
            | (go_at_call 55; refine (with55 a' n' c' _).mono ?_; rintro e w3 ⟨rfl, rfl⟩)
            | (go_at_call 53; refine (add_tells w.heap.size bo sl (decide (0 < s.al)) (.func 86) #[] #[.pointer (some ⟨w2.heap.size, 0, none⟩)] (os.map Opt.val) _ (HOUT.out.below (HBX.out.alloc HBX.out.size _)) (by simp; omega)).mono ?_; rintro e w4 hadd; have hOS := OS12.add (o := ⟨86, some w2.heap.size, .slice a' n' c', s.auds⟩) (decide (0 < s.al)) (fun h => by simp; omega) (HOS.out.more (HBX.out.alloc HBX.out.size _)) hlen hD (box_at (w := wc) (.all _ _ _ _ _) HOUT.out (HBX.out.alloc HBX.out.size _) HBX.out.size (by simp [go_sem]) (fun _ => HOWN.out.alloc _)) (.inl rfl) rfl hadd; obtain ⟨rfl, _⟩ := hadd; have hk2 := hOS.cell 3 (.slice s.aa s.al s.ac) rfl; have HOS2 := Lib.hid hOS; clear hOS))
        all_goals (go_wp2_with fail; go_meet)
        all_goals
          case rel =>
          refine ⟨_, HOS2.out, fun i h5 h6 => ?_, fun h0 => ?_, fun h0 => ?_⟩
          · by_cases hp : 0 < s.al <;> simp [hp, Opt.eff, setD, h5, h6]
          · simp [h0]
          · have hp : 0 < s.al := by omega
            simp [hp, Opt.eff, setD, ← HAL.out]

    case rest =>
    obtain ⟨D5, hO, hD5a, hD5b, hD5c⟩ := hcut
    have HO := Lib.hid hO; clear hO
    have HD5a := Lib.hid hD5a; clear hD5a
    have HD5b := Lib.hid hD5b; clear hD5b
    have HD5c := Lib.hid hD5c; clear hD5c
    go_upto_region 7 with fail
    go_cut [] from 44 to 51 (fun wx => ∃ D', OS2 s bs bo 5 D' w wx ∧ D' = if (!(s.iss.toList == [])) then setD D5 7 (.string s.iss) else D5)
    case first =>
      have hc := HO.out.cell 5 (.string s.iss) rfl
      have hbl := World.block_lt_of_cell? wc _ hc
      have HC := Lib.hid HO.out
      obtain ⟨os, hos, hlen, hD, haud⟩ := HC.out
      obtain ⟨sl, hout⟩ := hos.out
      have HOS := Lib.hid hos; clear hos
      have HOUT := Lib.hid hout; clear hout
      have HAUD := Lib.hid haud; clear haud
      rcases Bool.eq_false_or_eq_true (s.iss.toList == []) with hb | hb
      · go_region_held3 (fun w' => w'.cell? ⟨bs, 5, none⟩ = some (.string s.iss)) (first | exact hc | exact hk2 | exact (World.cell?_alloc_lt _ _ _ hbl).trans hc | go_keep)
          (first
            | (go_at_call 57; refine (with57 s.iss _).mono ?_; rintro e w2 ⟨rfl, rfl⟩)
            | (go_at_call 53; refine (add_tells w.heap.size bo sl false (.func 88) #[] #[.pointer (some ⟨wc.heap.size, 0, none⟩)] (os.map Opt.val) _ (HOUT.out.below (by go_grown)) (by simp; omega)).mono ?_; rintro e w2 hadd; have hOS := OS2.add (o := ⟨88, some wc.heap.size, .string s.iss, []⟩) false (HOS.out.more (by go_grown)) hlen hD HAUD.out (box_at (w := wc) (by first | exact .iss _ _ _ | exact .sub _ _ _) HOUT.out (by go_grown) (Nat.le_refl _) (by simp [go_sem]) (fun hf => by omega)) rfl hadd; obtain ⟨rfl, _⟩ := hadd; have hk2 := hOS.cell 5 (.string s.iss) rfl; have HOS2 := Lib.hid hOS; clear hOS))
        all_goals (go_wp2_with fail; go_meet)
        all_goals
          case rel => exact ⟨_, HOS2.out, by rw [hb]; rfl⟩
      · go_region_held3 (fun w' => w'.cell? ⟨bs, 5, none⟩ = some (.string s.iss)) (first | exact hc | exact hk2 | exact (World.cell?_alloc_lt _ _ _ hbl).trans hc | go_keep)
          (first
            | (go_at_call 57; refine (with57 s.iss _).mono ?_; rintro e w2 ⟨rfl, rfl⟩)
            | (go_at_call 53; refine (add_tells w.heap.size bo sl true (.func 88) #[] #[.pointer (some ⟨wc.heap.size, 0, none⟩)] (os.map Opt.val) _ (HOUT.out.below (by go_grown)) (by simp; omega)).mono ?_; rintro e w2 hadd; have hOS := OS2.add (o := ⟨88, some wc.heap.size, .string s.iss, []⟩) true (HOS.out.more (by go_grown)) hlen hD HAUD.out (box_at (w := wc) (by first | exact .iss _ _ _ | exact .sub _ _ _) HOUT.out (by go_grown) (Nat.le_refl _) (by simp [go_sem]) (fun hf => by omega)) rfl hadd; obtain ⟨rfl, _⟩ := hadd; have hk2 := hOS.cell 5 (.string s.iss) rfl; have HOS2 := Lib.hid hOS; clear hOS))
        all_goals (go_wp2_with fail; go_meet)
        all_goals
          case rel => exact ⟨_, HOS2.out, by rw [hb]; rfl⟩
    case rest =>
    obtain ⟨D7, hO, hD7⟩ := hcut
    have HO := Lib.hid hO; clear hO
    have HD7 := Lib.hid hD7; clear hD7
    go_upto_region 8 with fail
    go_cut [] from 52 to 59 (fun wx => ∃ D', OS2 s bs bo 6 D' w wx ∧ D' = if (!(s.sub.toList == [])) then setD D7 8 (.string s.sub) else D7)
    case first =>
      have hc := HO.out.cell 6 (.string s.sub) rfl
      have hbl := World.block_lt_of_cell? wc _ hc
      have HC := Lib.hid HO.out
      obtain ⟨os, hos, hlen, hD, haud⟩ := HC.out
      obtain ⟨sl, hout⟩ := hos.out
      have HOS := Lib.hid hos; clear hos
      have HOUT := Lib.hid hout; clear hout
      have HAUD := Lib.hid haud; clear haud
      rcases Bool.eq_false_or_eq_true (s.sub.toList == []) with hb | hb
      · go_region_held3 (fun w' => w'.cell? ⟨bs, 6, none⟩ = some (.string s.sub)) (first | exact hc | exact hk2 | exact (World.cell?_alloc_lt _ _ _ hbl).trans hc | go_keep)
          (first
            | (go_at_call 58; refine (with58 s.sub _).mono ?_; rintro e w2 ⟨rfl, rfl⟩)
            | (go_at_call 53; refine (add_tells w.heap.size bo sl false (.func 89) #[] #[.pointer (some ⟨wc.heap.size, 0, none⟩)] (os.map Opt.val) _ (HOUT.out.below (by go_grown)) (by simp; omega)).mono ?_; rintro e w2 hadd; have hOS := OS2.add (o := ⟨89, some wc.heap.size, .string s.sub, []⟩) false (HOS.out.more (by go_grown)) hlen hD HAUD.out (box_at (w := wc) (by first | exact .iss _ _ _ | exact .sub _ _ _) HOUT.out (by go_grown) (Nat.le_refl _) (by simp [go_sem]) (fun hf => by omega)) rfl hadd; obtain ⟨rfl, _⟩ := hadd; have hk2 := hOS.cell 6 (.string s.sub) rfl; have HOS2 := Lib.hid hOS; clear hOS))
        all_goals (go_wp2_with fail; go_meet)
        all_goals
          case rel => exact ⟨_, HOS2.out, by rw [hb]; rfl⟩
      · go_region_held3 (fun w' => w'.cell? ⟨bs, 6, none⟩ = some (.string s.sub)) (first | exact hc | exact hk2 | exact (World.cell?_alloc_lt _ _ _ hbl).trans hc | go_keep)
          (first
            | (go_at_call 58; refine (with58 s.sub _).mono ?_; rintro e w2 ⟨rfl, rfl⟩)
            | (go_at_call 53; refine (add_tells w.heap.size bo sl true (.func 89) #[] #[.pointer (some ⟨wc.heap.size, 0, none⟩)] (os.map Opt.val) _ (HOUT.out.below (by go_grown)) (by simp; omega)).mono ?_; rintro e w2 hadd; have hOS := OS2.add (o := ⟨89, some wc.heap.size, .string s.sub, []⟩) true (HOS.out.more (by go_grown)) hlen hD HAUD.out (box_at (w := wc) (by first | exact .iss _ _ _ | exact .sub _ _ _) HOUT.out (by go_grown) (Nat.le_refl _) (by simp [go_sem]) (fun hf => by omega)) rfl hadd; obtain ⟨rfl, _⟩ := hadd; have hk2 := hOS.cell 6 (.string s.sub) rfl; have HOS2 := Lib.hid hOS; clear hOS))
        all_goals (go_wp2_with fail; go_meet)
        all_goals
          case rel => exact ⟨_, HOS2.out, by rw [hb]; rfl⟩
    case rest =>
    obtain ⟨D8, hO, hD8⟩ := hcut
    have HO := Lib.hid hO; clear hO
    have HD8 := Lib.hid hD8; clear hD8
    go_upto_region 9 with fail
    go_cut [] from 60 to 64 (fun wx => ∃ D', OS2 s bs bo 7 D' w wx ∧ D' = if s.nexp then setD D8 2 (.bool true) else D8)
    case first =>
      have hc := HO.out.cell 7 (.bool s.nexp) rfl
      have HC := Lib.hid HO.out
      obtain ⟨os, hos, hlen, hD, haud⟩ := HC.out
      obtain ⟨sl, hout⟩ := hos.out
      have HOS := Lib.hid hos; clear hos
      have HOUT := Lib.hid hout; clear hout
      have HAUD := Lib.hid haud; clear haud
      go_region_held3 (fun w' => w'.cell? ⟨bs, 7, none⟩ = some (.bool s.nexp)) (first | exact hc | exact hk2 | go_keep)
        (first
          | (go_at_call 59; refine (with59 _).mono ?_; rintro e w2 ⟨rfl, rfl⟩)
          | (go_at_call 53; refine (add_tells w.heap.size bo sl s.nexp (.func 90) #[] #[] (os.map Opt.val) _ (HOUT.out.below (by go_grown)) (by simp; omega)).mono ?_; rintro e w2 hadd; have hOS := OS2.add (o := ⟨90, none, .bool true, []⟩) s.nexp (HOS.out.more (by go_grown)) hlen hD HAUD.out (flag_at 90 (by decide) _ _) rfl hadd; obtain ⟨rfl, _⟩ := hadd; have hk2 := hOS.cell 7 (.bool s.nexp) rfl; have HOS2 := Lib.hid hOS; clear hOS))
      all_goals (go_wp2_with fail; go_meet)
      all_goals
        case rel => exact ⟨_, HOS2.out, rfl⟩
    case rest =>
    obtain ⟨D9, hO, hD9⟩ := hcut
    have HO := Lib.hid hO; clear hO
    have HD9 := Lib.hid hD9; clear hD9
    go_upto_region 10 with fail
    go_cut [] from 65 to 69 (fun wx => ∃ D', OS2 s bs bo 8 D' w wx ∧ D' = if s.nnbf then setD D9 3 (.bool true) else D9)
    case first =>
      have hc := HO.out.cell 8 (.bool s.nnbf) rfl
      have HC := Lib.hid HO.out
      obtain ⟨os, hos, hlen, hD, haud⟩ := HC.out
      obtain ⟨sl, hout⟩ := hos.out
      have HOS := Lib.hid hos; clear hos
      have HOUT := Lib.hid hout; clear hout
      have HAUD := Lib.hid haud; clear haud
      go_region_held3 (fun w' => w'.cell? ⟨bs, 8, none⟩ = some (.bool s.nnbf)) (first | exact hc | exact hk2 | go_keep)
        (first
          | (go_at_call 60; refine (with60 _).mono ?_; rintro e w2 ⟨rfl, rfl⟩)
          | (go_at_call 53; refine (add_tells w.heap.size bo sl s.nnbf (.func 91) #[] #[] (os.map Opt.val) _ (HOUT.out.below (by go_grown)) (by simp; omega)).mono ?_; rintro e w2 hadd; have hOS := OS2.add (o := ⟨91, none, .bool true, []⟩) s.nnbf (HOS.out.more (by go_grown)) hlen hD HAUD.out (flag_at 91 (by decide) _ _) rfl hadd; obtain ⟨rfl, _⟩ := hadd; have hk2 := hOS.cell 8 (.bool s.nnbf) rfl; have HOS2 := Lib.hid hOS; clear hOS))
      all_goals (go_wp2_with fail; go_meet)
      all_goals
        case rel => exact ⟨_, HOS2.out, rfl⟩
    case rest =>
    obtain ⟨D10, hO, hD10⟩ := hcut
    have HO := Lib.hid hO; clear hO
    have HD10 := Lib.hid hD10; clear hD10
    go_upto_region 11 with fail
    go_cut [] from 70 to 74 (fun wx => ∃ D', OS2 s bs bo 9 D' w wx ∧ D' = if s.iat then setD D10 4 (.bool true) else D10)
    case first =>
      have hc := HO.out.cell 9 (.bool s.iat) rfl
      have HC := Lib.hid HO.out
      obtain ⟨os, hos, hlen, hD, haud⟩ := HC.out
      obtain ⟨sl, hout⟩ := hos.out
      have HOS := Lib.hid hos; clear hos
      have HOUT := Lib.hid hout; clear hout
      have HAUD := Lib.hid haud; clear haud
      go_region_held3 (fun w' => w'.cell? ⟨bs, 9, none⟩ = some (.bool s.iat)) (first | exact hc | exact hk2 | go_keep)
        (first
          | (go_at_call 61; refine (with61 _).mono ?_; rintro e w2 ⟨rfl, rfl⟩)
          | (go_at_call 53; refine (add_tells w.heap.size bo sl s.iat (.func 92) #[] #[] (os.map Opt.val) _ (HOUT.out.below (by go_grown)) (by simp; omega)).mono ?_; rintro e w2 hadd; have hOS := OS2.add (o := ⟨92, none, .bool true, []⟩) s.iat (HOS.out.more (by go_grown)) hlen hD HAUD.out (flag_at 92 (by decide) _ _) rfl hadd; obtain ⟨rfl, _⟩ := hadd; have hk2 := hOS.cell 9 (.bool s.iat) rfl; have HOS2 := Lib.hid hOS; clear hOS))
      all_goals (go_wp2_with fail; go_meet)
      all_goals
        case rel => exact ⟨_, HOS2.out, rfl⟩
    case rest =>
    obtain ⟨D11, hO, hD11⟩ := hcut
    have HO := Lib.hid hO; clear hO
    have HD11 := Lib.hid hD11; clear hD11
    go_upto_region 12 with fail
    go_cut [] from 75 to 79 (fun wx => ∃ D', OS2 s bs bo 10 D' w wx ∧ D' = if s.un then D11 else D11)
    case first =>
      have hc := HO.out.cell 10 (.bool s.un) rfl
      have HC := Lib.hid HO.out
      obtain ⟨os, hos, hlen, hD, haud⟩ := HC.out
      obtain ⟨sl, hout⟩ := hos.out
      have HOS := Lib.hid hos; clear hos
      have HOUT := Lib.hid hout; clear hout
      have HAUD := Lib.hid haud; clear haud
      go_region_held3 (fun w' => w'.cell? ⟨bs, 10, none⟩ = some (.bool s.un)) (first | exact hc | exact hk2 | go_keep)
        (first
          | (go_at_call 62; refine (with62 _).mono ?_; rintro e w2 ⟨rfl, rfl⟩)
          | (go_at_call 53; refine (add_tells w.heap.size bo sl s.un (.func 93) #[] #[] (os.map Opt.val) _ (HOUT.out.below (by go_grown)) (by simp; omega)).mono ?_; rintro e w2 hadd; have hOS := OS2.add (o := ⟨93, none, .bool true, []⟩) s.un (HOS.out.more (by go_grown)) hlen hD HAUD.out (flag_at 93 (by decide) _ _) rfl hadd; obtain ⟨rfl, _⟩ := hadd; have hk2 := hOS.cell 10 (.bool s.un) rfl; have HOS2 := Lib.hid hOS; clear hOS))
      all_goals (go_wp2_with fail; go_meet)
      all_goals
        case rel => exact ⟨_, HOS2.out, rfl⟩
    case rest =>
    obtain ⟨D12, hO, hD12⟩ := hcut
    have HO := Lib.hid hO; clear hO
    have HD12 := Lib.hid hD12; clear hD12
    go_upto_region 13 with fail
    go_cut [] from 80 to 84 (fun wx => ∃ D', OS2 s bs bo 11 D' w wx ∧ D' = if s.pad then D12 else D12)
    case first =>
      have hc := HO.out.cell 11 (.bool s.pad) rfl
      have HC := Lib.hid HO.out
      obtain ⟨os, hos, hlen, hD, haud⟩ := HC.out
      obtain ⟨sl, hout⟩ := hos.out
      have HOS := Lib.hid hos; clear hos
      have HOUT := Lib.hid hout; clear hout
      have HAUD := Lib.hid haud; clear haud
      go_region_held3 (fun w' => w'.cell? ⟨bs, 11, none⟩ = some (.bool s.pad)) (first | exact hc | exact hk2 | go_keep)
        (first
          | (go_at_call 63; refine (with63 _).mono ?_; rintro e w2 ⟨rfl, rfl⟩)
          | (go_at_call 53; refine (add_tells w.heap.size bo sl s.pad (.func 94) #[] #[] (os.map Opt.val) _ (HOUT.out.below (by go_grown)) (by simp; omega)).mono ?_; rintro e w2 hadd; have hOS := OS2.add (o := ⟨94, none, .bool true, []⟩) s.pad (HOS.out.more (by go_grown)) hlen hD HAUD.out (flag_at 94 (by decide) _ _) rfl hadd; obtain ⟨rfl, _⟩ := hadd; have hk2 := hOS.cell 11 (.bool s.pad) rfl; have HOS2 := Lib.hid hOS; clear hOS))
      all_goals (go_wp2_with fail; go_meet)
      all_goals
        case rel => exact ⟨_, HOS2.out, rfl⟩
    case rest =>
    obtain ⟨D13, hO, hD13⟩ := hcut
    have HO := Lib.hid hO; clear hO
    have HD13 := Lib.hid hD13; clear hD13
    go_upto_region 14 with fail
    go_cut [] from 85 to 89 (fun wx => ∃ D', OS2 s bs bo 12 D' w wx ∧ D' = if s.str then D13 else D13)
    case first =>
      have hc := HO.out.cell 12 (.bool s.str) rfl
      have HC := Lib.hid HO.out
      obtain ⟨os, hos, hlen, hD, haud⟩ := HC.out
      obtain ⟨sl, hout⟩ := hos.out
      have HOS := Lib.hid hos; clear hos
      have HOUT := Lib.hid hout; clear hout
      have HAUD := Lib.hid haud; clear haud
      go_region_held3 (fun w' => w'.cell? ⟨bs, 12, none⟩ = some (.bool s.str)) (first | exact hc | exact hk2 | go_keep)
        (first
          | (go_at_call 64; refine (with64 _).mono ?_; rintro e w2 ⟨rfl, rfl⟩)
          | (go_at_call 53; refine (add_tells w.heap.size bo sl s.str (.func 95) #[] #[] (os.map Opt.val) _ (HOUT.out.below (by go_grown)) (by simp; omega)).mono ?_; rintro e w2 hadd; have hOS := OS2.add (o := ⟨95, none, .bool true, []⟩) s.str (HOS.out.more (by go_grown)) hlen hD HAUD.out (flag_at 95 (by decide) _ _) rfl hadd; obtain ⟨rfl, _⟩ := hadd; have hk2 := hOS.cell 12 (.bool s.str) rfl; have HOS2 := Lib.hid hOS; clear hOS))
      all_goals (go_wp2_with fail; go_meet)
      all_goals
        case rel => exact ⟨_, HOS2.out, rfl⟩
    case rest =>
    obtain ⟨D14, hO, hD14⟩ := hcut
    have HO := Lib.hid hO; clear hO
    have HD14 := Lib.hid hD14; clear hD14
    obtain ⟨os, hos, hlen, hD, haud⟩ := HO.out
    obtain ⟨sl, hout⟩ := hos.out
    have hcell := cell_of_one hout.blk
    have HOS := Lib.hid hos; clear hos
    have HOUT := Lib.hid hout; clear hout
    have HAUD := Lib.hid haud; clear haud
    clear hcc
    go_wp2
    go_ret
    exact ⟨bs, bo, sl, os, D14, rfl, HOUT.out, HOS.out, by omega, hD, dok HD0.out HD5a.out HD5b.out HD5c.out HD7.out HD8.out HD9.out HD10.out HD11.out HD12.out HD13.out HD14.out, HAUD.out, by omega⟩
end Go.Proofs.YtgaaehpmbkjhlaaGreatDoor
