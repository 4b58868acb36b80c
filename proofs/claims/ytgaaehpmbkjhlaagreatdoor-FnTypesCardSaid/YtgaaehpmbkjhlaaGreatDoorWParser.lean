/- jwt.NewParser and jwt.NewValidator: the options, one after the other. -/
import Derived.Test.YtgaaehpmbkjhlaaGreatDoorWOptsOf
namespace Go.Proofs.YtgaaehpmbkjhlaaGreatDoor
open Go Go.RowKit

def vCells : Array Value := #[.int .i64 0, .nilFunc, .bool false, .bool false, .bool false, .slice none 0 0, .bool false, .string { data := #[] }, .string { data := #[] }]
def pCells (v : Nat) : Array Value := #[.slice none 0 0, .nilFunc, .bool false, .bool false, .pointer (some ⟨v, 0, none⟩), .bool false, .bool false]

theorem par_start (w : World) : ParAt ((w.alloc (.cells vCells 109)).alloc (.cells (pCells w.heap.size) 93)) (w.heap.size + 1) w.heap.size d0 := by
  have hv : ((w.alloc (.cells vCells 109)).alloc (.cells (pCells w.heap.size) 93)).heap[w.heap.size]? = some (.cells vCells 109 (0, 0)) := heap_up (heap_at w _ rfl)
  have hp : ((w.alloc (.cells vCells 109)).alloc (.cells (pCells w.heap.size) 93)).heap[w.heap.size + 1]? = some (.cells (pCells w.heap.size) 93 (0, 0)) := heap_at _ _ (size_up w _ rfl)
  generalize (w.alloc (.cells vCells 109)).alloc (.cells (pCells w.heap.size) 93) = X at hv hp
  have hfp : ∀ i, X.frozen? ⟨w.heap.size + 1, i, none⟩ = false := fun i => by simp [World.frozen?, hp]
  have hfv : ∀ i, X.frozen? ⟨w.heap.size, i, none⟩ = false := fun i => by simp [World.frozen?, hv]
  refine ⟨by simp [World.cell?, hp, pCells], fun i hi => ?_, fun i _ => hfp i, fun i hi => ?_, fun i _ => hfv i, by omega⟩
  · have : i = 0 ∨ i = 1 ∨ i = 2 ∨ i = 3 ∨ i = 4 ∨ i = 5 ∨ i = 6 := by omega
    rcases this with rfl | rfl | rfl | rfl | rfl | rfl | rfl <;> exact ⟨_, by simp only [World.cell?, hp]; rfl⟩
  · have : i = 0 ∨ i = 1 ∨ i = 2 ∨ i = 3 ∨ i = 4 ∨ i = 5 ∨ i = 6 ∨ i = 7 ∨ i = 8 := by omega
    rcases this with rfl | rfl | rfl | rfl | rfl | rfl | rfl | rfl | rfl <;> (simp only [World.cell?, hv]; rfl)

set_option maxRecDepth 100000 in
set_option maxHeartbeats 4000000 in
theorem newParser_gives (os : List Opt) (g n cap : Nat) (w : World) (hn : os.length = n) (hmax : n ≤ 1000) (hc : ∀ j (h : j < os.length), w.cell? ⟨g, j, none⟩ = some os[j].val)
    (ho : ∀ o ∈ os, o.Shape ∧ ∀ b, o.b = some b → w.cell? ⟨b, 0, none⟩ = some o.x) :
    Calls Tryz.prog 48 #[.slice (some ⟨g, 0, none⟩) n cap] w fun e w' => ∃ p v, e = .returned (.pointer (some ⟨p, 0, none⟩)) ∧ ParAt w' p v (effs os d0) ∧ Below w.heap.size w w' := by
  have HN := Lib.hid hn; clear hn
  have HC := Lib.hid hc; clear hc
  have HO := Lib.hid ho; clear ho
  go_enter Tryz.func48, Tryz.ntmps48
  go_wp2
  have hst := par_start w
  have hbl : Below w.heap.size w ((w.alloc (.cells vCells 109)).alloc (.cells (pCells w.heap.size) 93)) := by go_grown
  unfold vCells pCells at hst hbl
  have HST := Lib.hid hst; clear hst
  have HBL := Lib.hid hbl; clear hbl
  go_loopw [12] (fun i wr => ∃ k : Nat, k ≤ n ∧ i = .int .i64 k ∧ ParAt wr (w.heap.size + 1) w.heap.size (effs (os.take k) d0) ∧ Below w.heap.size w wr) (fun i _ => n - (intOf i).toNat)
  case atStart => exact ⟨0, Nat.zero_le _, rfl, HST.out, HBL.out⟩
  case round =>
    clear HST HBL
    obtain ⟨k, hk, rfl, hpar, hb⟩ := hrel
    have HB := Lib.hid hb; clear hb
    have HP := Lib.hid hpar; clear hpar
    by_cases hlt : k < n
    · have hk' : k < os.length := by rw [HN.out]; exact hlt
      have hval := cell_below (HC.out k hk') HB.out
      obtain ⟨hsh, hbox⟩ := HO.out _ (List.getElem_mem hk')
      have htake : effs (os.take (k + 1)) d0 = os[k].eff (effs (os.take k) d0) := by rw [List.take_succ_eq_append_getElem hk', effs_snoc]
      obtain ⟨o, ho⟩ : ∃ o, o = os[k] := ⟨_, rfl⟩
      rw [← ho] at hval hsh hbox htake
      clear ho
      generalize effs (os.take k) d0 = D at HP htake
      have HT := Lib.hid htake; clear htake
      have hbox' : ∀ b, o.b = some b → wr.cell? ⟨b, 0, none⟩ = some o.x ∧ b ≠ w.heap.size := fun b hb => ⟨cell_below (hbox b hb) HB.out, by have := World.block_lt_of_cell? w _ (hbox b hb); exact Nat.ne_of_lt this⟩
      clear hbox
      have fin : ∀ (e : Ending) (w2 : World), GivesPar (w.heap.size + 1) w.heap.size (o.eff D) wr e w2 → e = .returned (.tuple #[]) ∧ ParAt w2 (w.heap.size + 1) w.heap.size (effs (os.take (k + 1)) d0) ∧ Below w.heap.size w w2 := fun e w2 hg =>
        ⟨hg.1, by rw [HT.out]; exact hg.2.1, HB.out.trans (hg.2.2 _ (by omega) (Nat.le_refl _))⟩
      have HF := Lib.hid fin; clear fin
      clear HT
      cases hsh with
      | time b bs ss =>
        obtain ⟨h1, h2⟩ := hbox' b rfl
        clear hbox'
        unfold Opt.val Opt.caps at hval
        go_wp2_with (go_at_call 83; refine (opt83 (w.heap.size + 1) w.heap.size b bs D wr HP.out h1 h2).mono ?_; rintro e w2 hg; obtain ⟨rfl, hp2, hb2⟩ := HF.out e w2 hg)
        exact ⟨⟨k + 1, by omega, by go_num, hp2, hb2⟩, by simp [intOf]; omega⟩
      | lee b m ss =>
        obtain ⟨h1, h2⟩ := hbox' b rfl
        clear hbox'
        unfold Opt.val Opt.caps at hval
        go_wp2_with (go_at_call 84; refine (opt84 (w.heap.size + 1) w.heap.size b m D wr HP.out h1 h2).mono ?_; rintro e w2 hg; obtain ⟨rfl, hp2, hb2⟩ := HF.out e w2 hg)
        exact ⟨⟨k + 1, by omega, by go_num, hp2, hb2⟩, by simp [intOf]; omega⟩
      | methods b a m c ss =>
        obtain ⟨h1, h2⟩ := hbox' b rfl
        clear hbox'
        unfold Opt.val Opt.caps at hval
        go_wp2_with (go_at_call 85; refine (opt85 (w.heap.size + 1) w.heap.size b a m c D wr HP.out h1).mono ?_; rintro e w2 hg; obtain ⟨rfl, hp2, hb2⟩ := HF.out e w2 hg)
        exact ⟨⟨k + 1, by omega, by go_num, hp2, hb2⟩, by simp [intOf]; omega⟩
      | all b a m c ss =>
        obtain ⟨h1, h2⟩ := hbox' b rfl
        clear hbox'
        unfold Opt.val Opt.caps at hval
        go_wp2_with (go_at_call 86; refine (opt86 (w.heap.size + 1) w.heap.size b a m c D wr HP.out h1 h2).mono ?_; rintro e w2 hg; obtain ⟨rfl, hp2, hb2⟩ := HF.out e w2 hg)
        exact ⟨⟨k + 1, by omega, by go_num, hp2, hb2⟩, by simp [intOf]; omega⟩
      | aud b a m c ss =>
        obtain ⟨h1, h2⟩ := hbox' b rfl
        clear hbox'
        unfold Opt.val Opt.caps at hval
        go_wp2_with (go_at_call 87; refine (opt87 (w.heap.size + 1) w.heap.size b a m c D wr HP.out h1 h2).mono ?_; rintro e w2 hg; obtain ⟨rfl, hp2, hb2⟩ := HF.out e w2 hg)
        exact ⟨⟨k + 1, by omega, by go_num, hp2, hb2⟩, by simp [intOf]; omega⟩
      | iss b s ss =>
        obtain ⟨h1, h2⟩ := hbox' b rfl
        clear hbox'
        unfold Opt.val Opt.caps at hval
        go_wp2_with (go_at_call 88; refine (opt88 (w.heap.size + 1) w.heap.size b s D wr HP.out h1 h2).mono ?_; rintro e w2 hg; obtain ⟨rfl, hp2, hb2⟩ := HF.out e w2 hg)
        exact ⟨⟨k + 1, by omega, by go_num, hp2, hb2⟩, by simp [intOf]; omega⟩
      | sub b s ss =>
        obtain ⟨h1, h2⟩ := hbox' b rfl
        clear hbox'
        unfold Opt.val Opt.caps at hval
        go_wp2_with (go_at_call 89; refine (opt89 (w.heap.size + 1) w.heap.size b s D wr HP.out h1 h2).mono ?_; rintro e w2 hg; obtain ⟨rfl, hp2, hb2⟩ := HF.out e w2 hg)
        exact ⟨⟨k + 1, by omega, by go_num, hp2, hb2⟩, by simp [intOf]; omega⟩
      | flag fn h x ss =>
        clear hbox'
        unfold Opt.val Opt.caps at hval
        rcases h with rfl | rfl | rfl | rfl | rfl | rfl
        · go_wp2_with (go_at_call 90; refine (opt90 (w.heap.size + 1) w.heap.size D wr HP.out).mono ?_; rintro e w2 hg; obtain ⟨rfl, hp2, hb2⟩ := HF.out e w2 hg)
          exact ⟨⟨k + 1, by omega, by go_num, hp2, hb2⟩, by simp [intOf]; omega⟩
        · go_wp2_with (go_at_call 91; refine (opt91 (w.heap.size + 1) w.heap.size D wr HP.out).mono ?_; rintro e w2 hg; obtain ⟨rfl, hp2, hb2⟩ := HF.out e w2 hg)
          exact ⟨⟨k + 1, by omega, by go_num, hp2, hb2⟩, by simp [intOf]; omega⟩
        · go_wp2_with (go_at_call 92; refine (opt92 (w.heap.size + 1) w.heap.size D wr HP.out).mono ?_; rintro e w2 hg; obtain ⟨rfl, hp2, hb2⟩ := HF.out e w2 hg)
          exact ⟨⟨k + 1, by omega, by go_num, hp2, hb2⟩, by simp [intOf]; omega⟩
        · go_wp2_with (go_at_call 93; refine (opt93 (w.heap.size + 1) w.heap.size D wr HP.out).mono ?_; rintro e w2 hg; obtain ⟨rfl, hp2, hb2⟩ := HF.out e w2 hg)
          exact ⟨⟨k + 1, by omega, by go_num, hp2, hb2⟩, by simp [intOf]; omega⟩
        · go_wp2_with (go_at_call 94; refine (opt94 (w.heap.size + 1) w.heap.size D wr HP.out).mono ?_; rintro e w2 hg; obtain ⟨rfl, hp2, hb2⟩ := HF.out e w2 hg)
          exact ⟨⟨k + 1, by omega, by go_num, hp2, hb2⟩, by simp [intOf]; omega⟩
        · go_wp2_with (go_at_call 95; refine (opt95 (w.heap.size + 1) w.heap.size D wr HP.out).mono ?_; rintro e w2 hg; obtain ⟨rfl, hp2, hb2⟩ := HF.out e w2 hg)
          exact ⟨⟨k + 1, by omega, by go_num, hp2, hb2⟩, by simp [intOf]; omega⟩
    · obtain rfl : k = n := by omega
      go_wp2
      go_ret
      have hm := HP.out
      rw [List.take_of_length_le (by have := HN.out; omega)] at hm
      exact ⟨_, _, rfl, hm, HB.out⟩

set_option maxRecDepth 100000 in
set_option maxHeartbeats 1000000 in
theorem newValidator_gives (os : List Opt) (g n cap : Nat) (w : World) (hn : os.length = n) (hmax : n ≤ 1000) (hc : ∀ j (h : j < os.length), w.cell? ⟨g, j, none⟩ = some os[j].val)
    (ho : ∀ o ∈ os, o.Shape ∧ ∀ b, o.b = some b → w.cell? ⟨b, 0, none⟩ = some o.x) :
    Calls Tryz.prog 33 #[.slice (some ⟨g, 0, none⟩) n cap] w fun e w' => ∃ p v, e = .returned (.pointer (some ⟨v, 0, none⟩)) ∧ ParAt w' p v (effs os d0) ∧ Below w.heap.size w w' := by
  have H := Lib.hid (newParser_gives os g n cap w hn hmax hc ho)
  clear hn hc ho
  go_enter Tryz.func33, Tryz.ntmps33
  go_wp2_with fail
  refine H.out.mono ?_
  rintro e w' ⟨p, v, rfl, hp, hb⟩
  have hptr := hp.ptr
  have HP := Lib.hid hp; clear hp
  have HB := Lib.hid hb; clear hb
  go_wp2
  go_ret
  exact ⟨_, _, rfl, HP.out, HB.out⟩
end Go.Proofs.YtgaaehpmbkjhlaaGreatDoor
