/- impl.AudienceOf tells the audience of fine claims. -/
import Derived.Test.YtgaaehpmbkjhlaaGreatDoorWTextOf
import Derived.Deep.AppendLies
namespace Go.Proofs.YtgaaehpmbkjhlaaGreatDoor
open Go Go.RowKit

theorem Tryz.info9 : (Tryz.prog.info? 9).map (fun i => (i.zero, i.size, i.bytes)) = some (some (.string ByteArray.empty), 1, 16) := by kernel_rfl

/-- The look-up without ok. -/
theorem run_look1_no {w : World} {bm : Nat} {cs : List Cl} (h : MapAt w bm cs) (s : ByteArray) (hf : findC cs s = none) :
    (Instr.lookup 47 (.map (some bm)) (.string s) false).run Tryz.prog w = .ok .nilIface w := by
  obtain ⟨es, clock, h1, h2⟩ := h
  have hn := findNow_ents s es.toList cs 0 h2
  rw [hf] at hn
  simp only at hn
  simp [Instr.lookup, run_underlying Tryz.underlying47, MapKept.run_getObj_map h1, run_checkKey_string, Instr.findKey, run_underlying Tryz.underlying9, hn]
theorem run_look1_yes {w : World} {bm : Nat} {cs : List Cl} (h : MapAt w bm cs) (s : ByteArray) {c : Cl} (hf : findC cs s = some c) :
    ∃ u, AnyAt w c u ∧ (Instr.lookup 47 (.map (some bm)) (.string s) false).run Tryz.prog w = .ok u w := by
  obtain ⟨es, clock, h1, h2⟩ := h
  have hn := findNow_ents s es.toList cs 0 h2
  rw [hf] at hn
  obtain ⟨j, u, hn, hu⟩ := hn
  refine ⟨u, hu, ?_⟩
  simp [Instr.lookup, run_underlying Tryz.underlying47, MapKept.run_getObj_map h1, run_checkKey_string, Instr.findKey, run_underlying Tryz.underlying9, hn]

/-- Texts in memory of the call's own, and no error. -/
def GivesStrs (ss : List ByteArray) (w : World) (e : Ending) (w' : World) : Prop :=
  ∃ sl, e = .returned (.tuple #[sl, .nilIface]) ∧ w'.ownsRow w.heap.size 9 1 sl ss.length (ss.map Value.string) ∧ Below w.heap.size w w'

set_option maxRecDepth 100000 in
theorem parseAud_none (bm : Nat) (cs : List Cl) (s : ByteArray) (w : World) (hm : MapAt w bm cs) (hf : findC cs s = none) :
    Calls Tryz.prog 45 #[.map (some bm), .string s] w (GivesStrs [] w) := by
  have hl := run_look1_no hm s hf
  clear hm hf
  have t1 := taNil_9
  have t2 := taNil_24
  have t3 := taNil_123
  go_enter Tryz.func45, Tryz.ntmps45
  go_wp2
  go_ret2
  exact ⟨_, rfl, World.ownsRow_nil _ _ _ _, Below.refl _ _⟩

set_option maxRecDepth 100000 in
set_option maxHeartbeats 400000 in
theorem parseAud_text (bm : Nat) (cs : List Cl) (s : ByteArray) (w : World) (c : Cl) (hm : MapAt w bm cs) (hf : findC cs s = some c) (hk : c.v.k = 1) :
    Calls Tryz.prog 45 #[.map (some bm), .string s] w (GivesStrs [c.v.t] w) := by
  obtain ⟨u, hu, hl⟩ := run_look1_yes hm s hf
  rw [any_text hu hk] at hl
  clear hu hm hf hk
  obtain ⟨i0, hi, hz0, hz1, hz2⟩ := info_parts Tryz.info9
  have t1 := ta9_9
  generalize c.v.t = t at hl ⊢
  go_enter Tryz.func45, Tryz.ntmps45
  go_wp2_with (at_builtin; refine wpList_append_own _ rfl _ _ 24 rfl w.heap.size 9 i0 (.string ByteArray.empty) 1 16 Tryz.underlying24 hi hz0 hz1 hz2 rfl (by decide) (.slice none 0 0) 0 [] rfl (World.ownsRow_nil _ w.heap.size 9 1) ⟨w.heap.size, 0, none⟩ 1 1 [.string t] rfl rfl (cell_one_new _ _ _) (fun u hu => by simp at hu; subst hu; rfl) (by unfold maxLen; omega) (by omega) (by simp) ?_; intro v' w3 hown3 hg3 hnil3)
  go_ret2
  exact ⟨_, rfl, hown3, (below1 _ _).grown hg3 (by simp) (fun g hg => by simp [Value.ownBlock] at hg)⟩

set_option maxRecDepth 100000 in
set_option maxHeartbeats 1000000 in
theorem parseAud_list (bm : Nat) (cs : List Cl) (s : ByteArray) (w : World) (c : Cl) (hm : MapAt w bm cs) (hf : findC cs s = some c) (hk : c.v.k = 4) (h1 : 1 ≤ c.xs.length) (hx : ∀ x ∈ c.xs, x.k = 1) (h50 : c.xs.length ≤ 50) :
    Calls Tryz.prog 45 #[.map (some bm), .string s] w (GivesStrs (c.xs.map (·.t)) w) := by
  obtain ⟨u, hu, hl⟩ := run_look1_yes hm s hf
  rcases hu with ⟨_, sl, rfl, ho⟩ | ⟨h4, _⟩
  rotate_left
  · exact absurd hk h4
  obtain ⟨xs, hxs⟩ : ∃ xs, xs = c.xs := ⟨_, rfl⟩
  rw [← hxs] at ho h1 hx h50 ⊢
  clear hxs hm hf hk
  obtain ⟨g, cap, rfl, _, hg⟩ := ho.form h1
  have HC := Lib.hid (show ∀ j (h : j < xs.length), w.cell? ⟨g, j, none⟩ = some (.iface 9 (.string xs[j].t)) from fun j h => by
    have := ho.cells (g := g) rfl j (anyLeaf xs[j]) (by simp [h])
    rw [show ((⟨g, 0, none⟩ : Addr).add j) = ⟨g, j, none⟩ by unfold Addr.add; split <;> simp_all] at this
    rw [this]
    unfold anyLeaf
    rw [if_pos (hx _ (List.getElem_mem h))])
  clear ho hx
  obtain ⟨i0, hi, hz0, hz1, hz2⟩ := info_parts Tryz.info9
  have t1 := ta123_9
  have t2 := ta123_24
  have t3 := ta123_123
  have t4 := ta9_9
  go_enter Tryz.func45, Tryz.ntmps45
  go_wp2
  clear hl t1 t2 t3
  obtain ⟨n, hn⟩ : ∃ n, n = xs.length := ⟨_, rfl⟩
  rw [← hn] at h1 h50 ⊢
  have HN := Lib.hid hn; clear hn
  go_loopw [6, 33] (fun l i wr => ∃ k : Nat, k ≤ n ∧ i = .int .i64 k ∧ wr.ownsRow w.heap.size 9 1 l k (((xs.map (·.t)).map Value.string).take k) ∧ Below w.heap.size w wr) (fun _ i _ => n - (intOf i).toNat)
  case atStart => exact ⟨0, Nat.zero_le _, rfl, World.ownsRow_nil _ _ _ _, Below.refl _ _⟩
  case round =>
    obtain ⟨k, hk, rfl, hown, hb⟩ := hrel
    have HB := Lib.hid hb; clear hb
    by_cases hlt : k < n
    · have hk' : k < xs.length := by rw [← HN.out]; exact hlt
      have e0 := (HB.out.cell (p := ⟨g, k, none⟩) hg).trans (HC.out k hk')
      have htake : ((xs.map (·.t)).map Value.string).take (k + 1) = ((xs.map (·.t)).map Value.string).take k ++ [.string xs[k].t] := by rw [List.take_succ_eq_append_getElem (by simpa using hk')]; simp
      generalize xs[k].t = t at e0 htake
      have HT := Lib.hid htake; clear htake
      have HO := Lib.hid hown; clear hown
      have hszr : w.heap.size ≤ wr.heap.size := HB.out.size
      go_wp2_with (at_builtin; refine wpList_append_own _ rfl _ _ 24 rfl w.heap.size 9 i0 (.string ByteArray.empty) 1 16 Tryz.underlying24 hi hz0 hz1 hz2 rfl (by decide) _ _ _ rfl (HO.out.alloc _) ⟨wr.heap.size, 0, none⟩ 1 1 [.string t] rfl rfl (cell_one_new _ _ _) (fun u hu => by simp at hu; subst hu; rfl) (by unfold maxLen; omega) (by omega) (by simp; omega) ?_; intro v' w3 hown3 hg3 hnil3)
      refine ⟨⟨k + 1, by omega, by go_num, by rw [HT.out]; exact hown3, (HB.out.alloc HB.out.size _).grown hg3 (by simp; omega) (fun g hg => (HO.out.lt g hg).1)⟩, by simp [intOf]; omega⟩
    · obtain rfl : k = n := by omega
      go_wp2
      go_ret2
      refine ⟨_, rfl, ?_, HB.out⟩
      have hl : (xs.map (·.t)).length = k := by rw [List.length_map]; exact HN.out.symm
      rw [List.take_of_length_le (by rw [List.length_map]; omega)] at hown
      rw [hl]
      exact hown
end Go.Proofs.YtgaaehpmbkjhlaaGreatDoor
