/- FnValidate holds: for every settings and every list of claims the call returns true. -/
import Derived.Test.YtgaaehpmbkjhlaaGreatDoorLaidSen
import Derived.Test.YtgaaehpmbkjhlaaGreatDoorWLaw4
import Derived.Test.YtgaaehpmbkjhlaaGreatDoorOpenSet
import Derived.Lay
import Derived.LaidMore
namespace Go.Proofs.YtgaaehpmbkjhlaaGreatDoor
open Go Go.RowKit Go.ChangeShapes Go.WideShapes Go.ChangeAt

theorem ownV : ownKnob Tryz.prog.godebug = none := by kernel_rfl
theorem laidOutV : laidOutB Tryz.prog = true := by kernel_rfl

theorem trodVars_lenV {H : Type} {enc : TypeId × Value → H} {P : Program} {W : World} {sp : Nat → Bool} : ∀ {ns : List String} {gs : List (DataW H)} {ps : List MemPlace}, DataW.TrodVars enc P W sp ns gs ps → gs.length = ns.length
  | [], [], _, _ => rfl
  | [], _ :: _, _, h => h.elim
  | _ :: _, [], _, h => h.elim
  | _ :: ns, _ :: gs, _, h => by
    obtain ⟨_, _, _, _, _, q, _, _, _, _, h, _⟩ := h
    simp [trodVars_lenV h]
theorem list16 {α : Type} {l : List α} (h : l.length = 16) : ∃ g1 g2 g3 g4 g5 g6 g7 g8 g9 g10 g11 g12 g13 g14 g15 g16, l = [g1, g2, g3, g4, g5, g6, g7, g8, g9, g10, g11, g12, g13, g14, g15, g16] := by
  match l, h with
  | [g1, g2, g3, g4, g5, g6, g7, g8, g9, g10, g11, g12, g13, g14, g15, g16], _ => exact ⟨g1, g2, g3, g4, g5, g6, g7, g8, g9, g10, g11, g12, g13, g14, g15, g16, rfl⟩

set_option maxRecDepth 100000 in
theorem validate_lifted (os : Os) (started : os.Started) (H : Type) (enc : TypeId × Value → H) :
    ReturnsInHanded {} Tryz.checked os 4 .any (fun w args => (Rows.fnValidateSpec.pre enc Tryz.prog Tryz.f4 [] false w args ∧ laidMetH Tryz.prog Rows.fnValidateRow.laid w) ∧ sizedMet enc Tryz.prog Tryz.f4 (OpenSpec.ofChange Rows.fnValidateSpec) false w args)
      (Rows.fnValidateSpec.post enc Tryz.prog Tryz.f4 false true false false) := by
  refine returnsInHanded_of_change_and (C := Tryz.checked) (X := fun w _ => laidMetH Tryz.prog Rows.fnValidateRow.laid w) (fun _ _ _ hh h => h.of_heap hh) ownV started (by kernel_rfl) Tryz.func4
    (ChangeSpec.witness_shaped (enc := enc) (C := Tryz.checked) (os := os) (X := fun w _ => laidMetH Tryz.prog Rows.fnValidateRow.laid w) false (World.laidAll Tryz.prog os Rows.fnValidateRow.laid) #[.agg #[.int .i64 0, .int .i64 0, .slice none 0 0, .slice none 0 0, .bool false, .string ⟨#[]⟩, .string ⟨#[]⟩, .bool false, .bool false, .bool false, .bool false, .bool false, .bool false], .slice none 0 0] 8 (World.laidAll_os _ _ _)
      (World.shaped_of_ZipB (by kernel_rfl) (by kernel_rfl)) (by kernel_rfl) (by kernel_rfl) (by kernel_rfl)
      (by rw [MakeChecks.laidMetH_plain _ _ _ (by kernel_rfl)]; exact laidMet_laidAll _ (by kernel_rfl) (by kernel_rfl))) ?_
  intro W base args ds gs before hval0 hW _ _ hL _
  have hval : ∀ (j : Nat) t v, Tryz.f4.params[j]? = some t → args[j]? = some v → Value.okWide Tryz.prog W .any base t v := hval0
  have hgl : gs.length = 16 := by
    obtain ⟨_, _, _, hV, _⟩ := hW
    exact trodVars_lenV hV
  obtain ⟨g1, g2, g3, g4, g5, g6, g7, g8, g9, g10, g11, g12, g13, g14, g15, g16, rfl⟩ := list16 hgl
  clear hgl
  have hW' := hW
  obtain ⟨p, q, hA0, hV, rfl, hfz, hnd⟩ := hW
  have hA : DataW.TrodAll enc Tryz.prog W 0 (fun _ => true) true Tryz.f4.params.toList args.toList ds p := hA0
  rw [Tryz.params4] at hA hval
  obtain ⟨v0, v1, d0, d1, p0, p1, rfl, rfl, rfl, h0, h1⟩ := trodAll_two hA
  obtain ⟨cs0, rfl, _⟩ := okWide_struct Tryz.underlying38 (hval 0 38 v0 rfl rfl)
  obtain ⟨a0, len, cap, rfl⟩ := okWide_slice Tryz.underlying22 (hval 1 22 v1 rfl rfl)
  have h0' := h0
  have h1' := h1
  obtain ⟨fuel0, hf0⟩ := h0'
  obtain ⟨fuel1, hf1⟩ := h1'
  obtain ⟨s, es, hs⟩ := open_settings hf0
  have ev : cs0 = s.vals := Array.toList_inj.1 es
  subst ev
  obtain ⟨a, n, c, cs, e, hcs, hnc, hcm⟩ := open_claims hf1
  obtain ⟨rfl, rfl, rfl⟩ := Value.slice.inj e
  have hL' : laidMetH Tryz.prog Rows.fnValidateRow.laid W := hL
  rw [MakeChecks.laidMetH_plain _ _ _ (by kernel_rfl)] at hL'
  obtain ⟨se, hse⟩ := sen_validate hL'
  have hlt : ∀ x ∈ (p0 ++ p1) ++ q, x.block < W.heap.size := fun x hx => DataW.Whole.lt hW' x hx
  clear hA0 hval0 hf0 hf1 e es
  refine (validate_law se s a0 len cap cs W hse hs hcs hnc hcm).mono fun e W' ⟨he, hb⟩ => ?_
  subst he
  exact ⟨_, rfl, _, _, _, [], p0 ++ p1, q, hW', trodAll_mk1 (shut_bool Tryz.underlying4 _), trodAll_mk2 (hb.trod laidOutV (by kernel_rfl) (of_decide_eq_true (by kernel_rfl)) h0 (fun x hx => hlt x (List.mem_append_left _ (List.mem_append_left _ hx)))) (hb.trod laidOutV (by kernel_rfl) (of_decide_eq_true (by kernel_rfl)) h1 (fun x hx => hlt x (List.mem_append_left _ (List.mem_append_right _ hx)))), hb.trodVars laidOutV (by kernel_rfl) hV, hb.frame _, fun h => by cases h⟩

theorem fnValidate_holds : Rows.FnValidateSaid :=
  OpenClaim.holds_of_wide 4 Tryz.f4 rfl rfl rfl rfl rfl rfl rfl ⟨rfl, rfl, rfl, rfl, rfl⟩ rfl rfl rfl rfl rfl (by kernel_rfl) Tryz.func4 (by kernel_rfl)
    (of_decide_eq_true (by kernel_rfl)) (by unfold Func.isWrapper; first | (rw [if_pos (by decide +kernel)]; kernel_rfl) | (rw [if_neg (by decide +kernel)]; exact ⟨rfl, rfl⟩))
    (fun os started H enc _ => validate_lifted os started H enc)
end Go.Proofs.YtgaaehpmbkjhlaaGreatDoor
