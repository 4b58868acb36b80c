/- slices.Clone of texts, and impl.AudienceOf. -/
import Derived.Test.YtgaaehpmbkjhlaaGreatDoorWAud
namespace Go.Proofs.YtgaaehpmbkjhlaaGreatDoor
open Go Go.RowKit

/-- A clone in memory of the call's own. -/
def GivesOwn (ss : List ByteArray) (w : World) (e : Ending) (w' : World) : Prop :=
  ∃ sl, e = .returned sl ∧ w'.ownsRow w.heap.size 9 1 sl ss.length (ss.map Value.string) ∧ Below w.heap.size w w'

set_option maxRecDepth 100000 in
theorem clone_nil (w : World) : Calls Tryz.prog 26 #[.slice none 0 0] w (GivesOwn [] w) := by
  have he := fun w => Lib.run_eql_slice_nil (P := Tryz.prog) w 24 9 none 0 0 0 0 Tryz.underlying24
  go_enter Tryz.func26, Tryz.ntmps26
  go_wp2
  go_ret
  exact ⟨_, rfl, World.ownsRow_nil _ _ _ _, Below.refl _ _⟩

set_option maxRecDepth 100000 in
set_option maxHeartbeats 400000 in
theorem clone_some (ad : Addr) (n cap : Nat) (ss : List ByteArray) (w : World) (hn : ss.length = n) (hc : ∀ j u, (ss.map Value.string)[j]? = some u → w.cell? (ad.add j) = some u) (h : n ≤ 1000) :
    Calls Tryz.prog 26 #[.slice (some ad) n cap] w (GivesOwn ss w) := by
  have he := fun w => Lib.run_eql_slice_nil (P := Tryz.prog) w 24 9 (some ad) n cap 0 0 Tryz.underlying24
  obtain ⟨i0, hi, hz0, hz1, hz2⟩ := info_parts Tryz.info9
  have HC := Lib.hid (show ∀ j u, (ss.map Value.string)[j]? = some u → (w.alloc (.cells #[] 9)).cell? (ad.add j) = some u from fun j u hu => by
    have := hc j u hu
    rw [World.cell?_alloc_lt w _ _ (World.block_lt_of_cell? w _ this)]
    exact this)
  clear hc
  have HN := Lib.hid hn; clear hn
  go_enter Tryz.func26, Tryz.ntmps26
  go_wp2_with (at_builtin; refine wpList_append_own _ rfl _ _ 24 rfl w.heap.size 9 i0 (.string ByteArray.empty) 1 16 Tryz.underlying24 hi hz0 hz1 hz2 rfl (by decide) (.slice (some ⟨w.heap.size, 0, none⟩) 0 0) 0 [] rfl (World.ownsRow_made w #[] 0 (Nat.le_refl _) (by simp) rfl) ad n cap (ss.map Value.string) rfl (by rw [List.length_map, HN.out, Nat.mul_one]) HC.out (fun u hu => by simp at hu; obtain ⟨x, _, rfl⟩ := hu; rfl) (by unfold maxLen; omega) (by omega) (by simp) ?_; intro v' w3 hown3 hg3 hnil3)
  go_ret
  refine ⟨_, rfl, ?_, (below1 _ _).grown hg3 (by simp) (fun g hg => by simp [Value.ownBlock] at hg; omega)⟩
  rw [HN.out]
  simpa using hown3

/-- A clone of a slice of texts of the call's own. -/
theorem clone_own (sl : Value) (ss : List ByteArray) (base : Nat) (w : World) (h : w.ownsRow base 9 1 sl ss.length (ss.map Value.string)) (h1000 : ss.length ≤ 1000) :
    Calls Tryz.prog 26 #[sl] w (GivesOwn ss w) := by
  rcases h.2 with ⟨rfl, h0⟩ | ⟨g, cap, cur, rfl, _⟩
  · obtain rfl := List.eq_nil_of_length_eq_zero h0
    exact clone_nil w
  · exact clone_some ⟨g, 0, none⟩ _ cap ss w rfl (h.cells (g := g) rfl) h1000

/-- The audience of fine claims. -/
inductive AudIs (cs : List Cl) : List ByteArray → Prop
  | none (h : findC cs AUD = none) : AudIs cs []
  | text (c : Cl) (h : findC cs AUD = some c) (hk : c.v.k = 1) : AudIs cs [c.v.t]
  | list (c : Cl) (h : findC cs AUD = some c) (hk : c.v.k = 4) (h1 : 1 ≤ c.xs.length) (h50 : c.xs.length ≤ 50) (hx : ∀ x ∈ c.xs, x.k = 1) : AudIs cs (c.xs.map (·.t))

theorem AudIs.len {cs : List Cl} {ss : List ByteArray} (h : AudIs cs ss) : ss.length ≤ 50 := by
  cases h with
  | none => simp
  | text => simp
  | list c h hk h1 h50 hx => simpa using h50

theorem parseAud_is (bm : Nat) (cs : List Cl) (ss : List ByteArray) (w : World) (hm : MapAt w bm cs) (h : AudIs cs ss) : Calls Tryz.prog 45 #[.map (some bm), .string AUD] w (GivesStrs ss w) := by
  cases h with
  | none h => exact parseAud_none bm cs AUD w hm h
  | text c h hk => exact parseAud_text bm cs AUD w c hm h hk
  | list c h hk h1 h50 hx => exact parseAud_list bm cs AUD w c hm h hk h1 hx h50

/-- Texts in memory of the call's own, and true. -/
def GivesStrsT (ss : List ByteArray) (w : World) (e : Ending) (w' : World) : Prop :=
  ∃ sl, e = .returned (.tuple #[sl, .bool true]) ∧ w'.ownsRow w.heap.size 9 1 sl ss.length (ss.map Value.string) ∧ Below w.heap.size w w'

theorem owns_mono {w : World} {b b' : Nat} {e : TypeId} {size : Nat} {v : Value} {n : Nat} {xs : List Value} (h : w.ownsRow b e size v n xs) (hb : b' ≤ b) : w.ownsRow b' e size v n xs := by
  refine ⟨h.1, ?_⟩
  rcases h.2 with h0 | ⟨g, cap, cur, hv, hg, rest⟩
  · exact .inl h0
  · exact .inr ⟨g, cap, cur, hv, Nat.le_trans hb hg, rest⟩

set_option maxRecDepth 100000 in
set_option maxHeartbeats 1000000 in
theorem audienceOf_is (a : Option Addr) (n cap : Nat) (cs : List Cl) (ss : List ByteArray) (w : World) (hm : CsAt w a n cs) (hf : Fine cs) (ha : AudIs cs ss) :
    Calls Tryz.prog 9 #[.slice a n cap] w (GivesStrsT ss w) := by
  have HM := Lib.hid hm; clear hm
  have HF := Lib.hid hf; clear hf
  have HA := Lib.hid ha; clear ha
  go_enter Tryz.func9, Tryz.ntmps9
  go_wp2_with fail
  refine (claimsOk_fine a n cap cs _ HM.out HF.out).mono ?_
  rintro e w1 ⟨rfl, hb1⟩
  have HB1 := Lib.hid hb1; clear hb1
  go_wp2_with fail
  refine (claimsOf_fine a n cap cs _ (HM.out.below HB1.out) HF.out).mono ?_
  rintro e w2 ⟨bm, rfl, hmap, hb2⟩
  have HMAP := Lib.hid hmap; clear hmap
  have HB2 := Lib.hid (HB1.out.trans (hb2.mono HB1.out.size)); clear hb2
  go_wp2_with (first | (go_at_call 45; refine (parseAud_is bm cs ss _ HMAP.out HA.out).mono ?_; rintro e w3 ⟨sl, rfl, hown, hb3⟩) | (go_at_call 25; go_in))
  have HB3 := Lib.hid (HB2.out.trans (hb3.mono HB2.out.size)); clear hb3
  have HO := Lib.hid hown; clear hown
  go_wp2_with fail
  refine (clone_own sl ss _ _ HO.out (by have := HA.out.len; omega)).mono ?_
  rintro e w4 ⟨sl', rfl, hown', hb4⟩
  have HB4 := Lib.hid (HB3.out.trans (hb4.mono HB3.out.size)); clear hb4
  have HO' := Lib.hid (owns_mono hown' HB3.out.size); clear hown'
  go_wp2
  go_ret2
  exact ⟨_, rfl, HO'.out, HB4.out⟩
end Go.Proofs.YtgaaehpmbkjhlaaGreatDoor
