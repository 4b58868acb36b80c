/- FnTypes holds: for every text and every number the call returns true. -/
import Derived.Test.YtgaaehpmbkjhlaaGreatDoorLaidSen
import Derived.Test.YtgaaehpmbkjhlaaGreatDoorWLaw5
import Derived.Test.YtgaaehpmbkjhlaaGreatDoorOpen
import Derived.Test.YtgaaehpmbkjhlaaGreatDoorTypesFacts
import Derived.Lay
import Derived.LaidMore
namespace Go.Proofs.YtgaaehpmbkjhlaaGreatDoor
open Go Go.RowKit Go.ChangeShapes Go.WideShapes Go.ChangeAt

theorem ownT : ownKnob Tryz.prog.godebug = none := by kernel_rfl
theorem laidOutT : laidOutB Tryz.prog = true := by kernel_rfl

theorem trodVars_lenT {H : Type} {enc : TypeId × Value → H} {P : Program} {W : World} {sp : Nat → Bool} : ∀ {ns : List String} {gs : List (DataW H)} {ps : List MemPlace}, DataW.TrodVars enc P W sp ns gs ps → gs.length = ns.length
  | [], [], _, _ => rfl
  | [], _ :: _, _, h => h.elim
  | _ :: _, [], _, h => h.elim
  | _ :: ns, _ :: gs, _, h => by
    obtain ⟨_, _, _, _, _, q, _, _, _, _, h, _⟩ := h
    simp [trodVars_lenT h]
theorem list16T {α : Type} {l : List α} (h : l.length = 16) : ∃ g1 g2 g3 g4 g5 g6 g7 g8 g9 g10 g11 g12 g13 g14 g15 g16, l = [g1, g2, g3, g4, g5, g6, g7, g8, g9, g10, g11, g12, g13, g14, g15, g16] := by
  match l, h with
  | [g1, g2, g3, g4, g5, g6, g7, g8, g9, g10, g11, g12, g13, g14, g15, g16], _ => exact ⟨g1, g2, g3, g4, g5, g6, g7, g8, g9, g10, g11, g12, g13, g14, g15, g16, rfl⟩

set_option maxRecDepth 100000 in
theorem types_lifted (os : Os) (started : os.Started) (H : Type) (enc : TypeId × Value → H) :
    ReturnsInHanded {} Tryz.checked os 5 .any (fun w args => (Rows.fnTypesSpec.pre enc Tryz.prog Tryz.f5 [] false w args ∧ laidMetH Tryz.prog Rows.fnTypesRow.laid w) ∧ sizedMet enc Tryz.prog Tryz.f5 (OpenSpec.ofChange Rows.fnTypesSpec) false w args)
      (Rows.fnTypesSpec.post enc Tryz.prog Tryz.f5 false true false false) := by
  refine returnsInHanded_of_change_and (C := Tryz.checked) (X := fun w _ => laidMetH Tryz.prog Rows.fnTypesRow.laid w) (fun _ _ _ hh h => h.of_heap hh) ownT started (by kernel_rfl) Tryz.func5
    (ChangeSpec.witness_shaped (enc := enc) (C := Tryz.checked) (os := os) (X := fun w _ => laidMetH Tryz.prog Rows.fnTypesRow.laid w) false (World.laidAll Tryz.prog os Rows.fnTypesRow.laid) #[.string ⟨#[]⟩, .int .i64 0] 8 (World.laidAll_os _ _ _)
      (World.shaped_of_ZipB (by kernel_rfl) (by kernel_rfl)) (by kernel_rfl) (by kernel_rfl) (by kernel_rfl)
      (by rw [MakeChecks.laidMetH_plain _ _ _ (by kernel_rfl)]; exact laidMet_laidAll _ (by kernel_rfl) (by kernel_rfl))) ?_
  intro W base args ds gs before hval0 hW _ _ hL _
  have hval : ∀ (j : Nat) t v, Tryz.f5.params[j]? = some t → args[j]? = some v → Value.okWide Tryz.prog W .any base t v := hval0
  have hgl : gs.length = 16 := by
    obtain ⟨_, _, _, hV, _⟩ := hW
    exact trodVars_lenT hV
  obtain ⟨g1, g2, g3, g4, g5, g6, g7, g8, g9, g10, g11, g12, g13, g14, g15, g16, rfl⟩ := list16T hgl
  clear hgl
  have hW' := hW
  obtain ⟨p, q, hA0, hV, rfl, hfz, hnd⟩ := hW
  have hA : DataW.TrodAll enc Tryz.prog W 0 (fun _ => true) true Tryz.f5.params.toList args.toList ds p := hA0
  rw [Tryz.params5] at hA hval
  obtain ⟨v0, v1, d0, d1, p0, p1, rfl, rfl, rfl, h0, h1⟩ := trodAll_two hA
  obtain ⟨tx, rfl⟩ := okWide_string Tryz.underlying9 (hval 0 9 v0 rfl rfl)
  obtain ⟨nn, rfl⟩ := okWide_int Tryz.underlying2 (hval 1 2 v1 rfl rfl)
  have h0' := h0
  obtain ⟨fuel0, hf0⟩ := h0'
  obtain ⟨tx', etx, _, htx⟩ := DataW.trod_string Tryz.underlying9 hf0
  have etx' : tx = tx' := by simpa [Value.cells] using etx
  subst etx'
  have hL' : laidMetH Tryz.prog Rows.fnTypesRow.laid W := hL
  rw [MakeChecks.laidMetH_plain _ _ _ (by kernel_rfl)] at hL'
  obtain ⟨se, hse⟩ := sen_types hL'
  have hlt : ∀ x ∈ (p0 ++ p1) ++ q, x.block < W.heap.size := fun x hx => DataW.Whole.lt hW' x hx
  clear hA0 hval0 hf0
  refine (types_law se tx nn W hse htx).mono fun e W' ⟨he, hb⟩ => ?_
  subst he
  exact ⟨_, rfl, _, _, _, [], p0 ++ p1, q, hW', trodAll_mk1 (shut_bool Tryz.underlying4 _), trodAll_mk2 (hb.trod laidOutT (by kernel_rfl) (of_decide_eq_true (by kernel_rfl)) h0 (fun x hx => hlt x (List.mem_append_left _ (List.mem_append_left _ hx)))) (hb.trod laidOutT (by kernel_rfl) (of_decide_eq_true (by kernel_rfl)) h1 (fun x hx => hlt x (List.mem_append_left _ (List.mem_append_right _ hx)))), hb.trodVars laidOutT (by kernel_rfl) hV, hb.frame _, fun h => by cases h⟩

theorem fnTypes_holds : Rows.FnTypesSaid :=
  OpenClaim.holds_of_wide 5 Tryz.f5 rfl rfl rfl rfl rfl rfl rfl ⟨rfl, rfl, rfl, rfl, rfl⟩ rfl rfl rfl rfl rfl types_named Tryz.func5 types_closed
    (of_decide_eq_true (by as_aux_lemma => kernel_rfl)) (by unfold Func.isWrapper; first | (rw [if_pos (by decide +kernel)]; kernel_rfl) | (rw [if_neg (by decide +kernel)]; exact ⟨rfl, rfl⟩))
    (fun os started H enc _ => types_lifted os started H enc)
end Go.Proofs.YtgaaehpmbkjhlaaGreatDoor
