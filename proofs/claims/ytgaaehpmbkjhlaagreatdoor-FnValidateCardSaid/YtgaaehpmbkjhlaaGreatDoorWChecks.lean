/- The six checks of right claims by right settings: each leaves what the plain law says. No conditions. -/
import Derived.Test.YtgaaehpmbkjhlaaGreatDoorWVal13
namespace Go.Proofs.YtgaaehpmbkjhlaaGreatDoor
open Go Go.RowKit

theorem noC_none {cs : List Cl} {s : ByteArray} (h : findC cs s = none) : noC cs s = true := by unfold noC; rw [h]; rfl
theorem noC_some {cs : List Cl} {s : ByteArray} {c : Cl} (h : findC cs s = some c) : noC cs s = false := by unfold noC; rw [h]; rfl
theorem isC_none {cs : List Cl} {s : ByteArray} (h : findC cs s = none) (p : Cl → Bool) : isC cs s p = false := by unfold isC; rw [h]
theorem isC_some {cs : List Cl} {s : ByteArray} {c : Cl} (h : findC cs s = some c) (p : Cl → Bool) : isC cs s p = p c := by unfold isC; rw [h]

theorem ok_text_ne {c : Cl} (h : IsTextV c.v) : (c.v.t.toList == []) = false := by
  rw [beq_eq_false_iff_ne]
  intro e
  have := size_of_nil e
  have := h.2.1.1
  omega

/-- The audience of right claims: there is some, and no text of it is empty. -/
theorem aud_some {cs : List Cl} (h : Valid cs) (hl : ∀ c ∈ cs, c.xs.length = c.v.ln) {c : Cl} (hf : findC cs AUD = some c) : 0 < (audOf cs).length ∧ ∀ s ∈ audOf cs, (s.toList == []) = false := by
  obtain ⟨e1, e2, e3, e4, e5, e6, e7, e8, e9, e10, e11⟩ := names_ne
  obtain ⟨hm, hn⟩ := findC_mem hf
  have ho := valid_ok h hm
  have ne : ∀ s : ByteArray, IsTextP s → (s.toList == []) = false := fun s hs => by
    rw [beq_eq_false_iff_ne]
    intro e
    have := size_of_nil e
    have := hs.1
    omega
  unfold audOf
  rw [hf]
  simp only
  split
  · rename_i hk
    refine ⟨by simp, fun s hs => ?_⟩
    obtain rfl : s = c.v.t := by simpa using hs
    cases ho with
    | date hn' => exfalso; rcases hn' with h' | h' | h' <;> rw [hn] at h' <;> first | exact e3 h'.symm | exact e6 h'.symm | exact e9 h'.symm
    | text hn' => exfalso; rcases hn' with h' | h' <;> rw [hn] at h' <;> first | exact e10 h'.symm | exact e11 h'.symm
    | aud1 _ hv => exact ne _ hv.2.1
    | aud _ hk4 ht h0 h1 h2 hx => rw [hk] at hk4; exact absurd hk4 (by decide)
  · rename_i hk
    cases ho with
    | date hn' => exfalso; rcases hn' with h' | h' | h' <;> rw [hn] at h' <;> first | exact e3 h'.symm | exact e6 h'.symm | exact e9 h'.symm
    | text hn' => exfalso; rcases hn' with h' | h' <;> rw [hn] at h' <;> first | exact e10 h'.symm | exact e11 h'.symm
    | aud1 _ hv => exact absurd hv.1 hk
    | aud _ hk4 ht h0 h1 h2 hx =>
      refine ⟨by rw [List.length_map, hl c hm]; omega, fun s hs => ?_⟩
      obtain ⟨x, hxx, rfl⟩ := List.mem_map.1 hs
      exact ne _ (hx x hxx).2.1

theorem date_nat {cs : List Cl} (hv : Valid cs) {s : ByteArray} (hs : s = EXP ∨ s = NBF ∨ s = IAT) {c : Cl} (hf : findC cs s = some c) : c.v.k = 2 ∧ ∃ q : Nat, c.v.n = (q : Int) ∧ 1 ≤ q ∧ q ≤ 1099511627776 := by
  obtain ⟨hm, hn⟩ := findC_mem hf
  obtain ⟨hk, h1, h2⟩ := ok_date (valid_ok hv hm) (by rw [hn]; exact hs)
  exact ⟨hk, c.v.n.toNat, by omega, by omega, by omega⟩

theorem checks_of (se : Nat → Addr) (s : St) (cs : List Cl) (hv : Valid cs) (hl : ∀ c ∈ cs, c.xs.length = c.v.ln) (hA : Asked s) (hal : s.auds.length = s.al) :
    Checks se s cs (rr (m1 s cs) (b1 s cs) 5) (rr (m2 s cs) (b2 s cs) 9) (rr false (b3 s cs) 6) (rr (m4 s cs) (b4 s cs) 4) (rr (m5 s cs) (b5 s cs) 7) (rr (m6 s cs) (b6 s cs) 8) := by
  have hlw : s.leeway = 1000000000 * s.lw := by unfold St.lw; have := hA.whole; omega
  have hL : 0 ≤ s.lw ∧ s.lw ≤ 1000000 := by unfold St.lw; have := hA.lee; omega
  refine ⟨?_, ?_, ?_, ?_, ?_, ?_, ?_, ?_, ?_, ?_⟩
  · intro v bm w hse hm hlee
    rw [hlw] at hlee
    cases hf : findC cs EXP with
    | none =>
      have := verExp_none se v bm cs s.now s.nexp w hse hm hf
      rw [show (rr (m1 s cs) (b1 s cs) 5).map se = if s.nexp then some (se 3) else none by unfold m1 b1; rw [noC_none hf, isC_none hf]; cases s.nexp <;> rfl]
      exact this
    | some c =>
      obtain ⟨hk, q, hq, q1, q2⟩ := date_nat hv (.inl rfl) hf
      have := verExp_yes se v bm cs s.now s.lw s.nexp w c q hse hm hf hk hq q1 q2 hL hlee
      rw [show (rr (m1 s cs) (b1 s cs) 5).map se = if s.now < ((q : Int) + s.lw) then none else some (se 5) by
        unfold m1 b1; rw [noC_some hf, isC_some hf, hq]
        by_cases h : s.now < (q : Int) + s.lw
        · rw [if_pos h, decide_eq_false (by omega)]; rfl
        · rw [if_neg h, decide_eq_true (by omega)]; rfl]
      exact this
  · intro v bm w hse hm hlee
    rw [hlw] at hlee
    cases hf : findC cs NBF with
    | none =>
      have := verNbf_none se v bm cs s.now s.nnbf w hse hm hf
      rw [show (rr (m2 s cs) (b2 s cs) 9).map se = if s.nnbf then some (se 3) else none by unfold m2 b2; rw [noC_none hf, isC_none hf]; cases s.nnbf <;> rfl]
      exact this
    | some c =>
      obtain ⟨hk, q, hq, q1, q2⟩ := date_nat hv (.inr (.inl rfl)) hf
      have := verNbf_yes se v bm cs s.now s.lw s.nnbf w c q hse hm hf hk hq q1 q2 hL hlee
      rw [show (rr (m2 s cs) (b2 s cs) 9).map se = if s.now < ((q : Int) + (-s.lw)) then some (se 9) else none by
        unfold m2 b2; rw [noC_some hf, isC_some hf, hq]
        by_cases h : s.now < (q : Int) + (-s.lw)
        · rw [if_pos h, decide_eq_true (by omega)]; rfl
        · rw [if_neg h, decide_eq_false (by omega)]; rfl]
      exact this
  · intro hi v bm w hse hm hlee
    rw [hlw] at hlee
    cases hf : findC cs IAT with
    | none =>
      have := verIat_none se v bm cs s.now false w hse hm hf
      rw [show (rr false (b3 s cs) 6).map se = none by unfold b3; rw [isC_none hf, hi]; rfl]
      exact this
    | some c =>
      obtain ⟨hk, q, hq, q1, q2⟩ := date_nat hv (.inr (.inr rfl)) hf
      have := verIat_yes se v bm cs s.now s.lw false w c q hse hm hf hk hq q1 q2 hL hlee
      rw [show (rr false (b3 s cs) 6).map se = if s.now < ((q : Int) + (-s.lw)) then some (se 6) else none by
        unfold b3; rw [isC_some hf, hq, hi]
        by_cases h : s.now < (q : Int) + (-s.lw)
        · rw [if_pos h, decide_eq_true (by omega)]; rfl
        · rw [if_neg h, decide_eq_false (by omega)]; rfl]
      exact this
  · intro hi
    unfold b3; rw [hi]; rfl
  · intro h0 v bm w wa wc hse hm hst h5
    have hpos : decide (0 < s.al) = true := decide_eq_true (by omega)
    have hmax : s.al ≤ 9223372036854775807 := by have := hA.a.1; omega
    cases hf : findC cs AUD with
    | none =>
      have := verAud_none se v bm cs wa s.al wc s.all w hse hm hf (by omega) h5
      rw [show (rr (m4 s cs) (b4 s cs) 4).map se = some (se 3) by unfold m4; rw [hpos]; unfold audOf; rw [hf]; rfl]
      exact this
    | some c =>
      obtain ⟨ha, hne⟩ := aud_some hv hl hf
      have hm4 : m4 s cs = false := by unfold m4; rw [hpos, decide_eq_false (by omega)]; rfl
      have hb4 : b4 s cs = (decide (hits s cs = 0) || (s.all && decide (hits s cs < s.al))) := by unfold b4; rw [hpos, decide_eq_true ha]; rfl
      rw [hm4, hb4]
      cases hall : s.all with
      | false =>
        have := verAud_any se v bm cs (audOf cs) s.auds wa s.al wc w hse hm (aud_is hv hl) ha hne hst hmax
        rw [none_law] at this
        rw [show (rr false (decide (hits s cs = 0) || (false && decide (hits s cs < s.al))) 4).map se = if (!decide ((s.auds.filter fun x => hasT (audOf cs) x).length = 0)) = true then none else some (se 4) by
          unfold hits
          by_cases h : (s.auds.filter fun x => hasT (audOf cs) x).length = 0
          · rw [decide_eq_true h]; rfl
          · rw [decide_eq_false h]; rfl]
        exact this
      | true =>
        obtain ⟨wb, wo, rfl, _, hcells⟩ := hst.2 h0
        have := verAud_all se v bm cs (audOf cs) s.auds wb wo s.al wc w hse hm (aud_is hv hl) ha hne hal hcells hmax
        rw [all_law, hal] at this
        rw [show (rr false (decide (hits s cs = 0) || (true && decide (hits s cs < s.al))) 4).map se = if (!decide ((s.auds.filter fun x => hasT (audOf cs) x).length < s.al)) = true then none else some (se 4) by
          unfold hits
          by_cases h : (s.auds.filter fun x => hasT (audOf cs) x).length < s.al
          · rw [decide_eq_true h]; simp [rr]
          · rw [decide_eq_false h, decide_eq_false (by omega)]; rfl]
        exact this
  · intro h0
    unfold m4 b4; rw [h0]; rfl
  · intro hi v bm w hse hm
    have hS : hasS s.iss = true := by unfold hasS; rw [hi]; rfl
    cases hf : findC cs ISS with
    | none =>
      have := verIss_none se v bm cs s.iss w hse hm hf
      rw [show (rr (m5 s cs) (b5 s cs) 7).map se = some (se 3) by unfold m5; rw [hS, noC_none hf]; rfl]
      exact this
    | some c =>
      obtain ⟨hmem, hn⟩ := findC_mem hf
      have ht := ok_text (valid_ok hv hmem) (.inl hn)
      have := verIss_yes se v bm cs s.iss w c hse hm hf ht.1 (ok_text_ne ht)
      rw [show (rr (m5 s cs) (b5 s cs) 7).map se = if (c.v.t.toList == s.iss.toList) then none else some (se 7) by
        unfold m5 b5; rw [hS, noC_some hf, isC_some hf]
        cases (c.v.t.toList == s.iss.toList) <;> rfl]
      exact this
  · intro hi
    have hS : hasS s.iss = false := by unfold hasS; rw [hi]; rfl
    unfold m5 b5; rw [hS]; rfl
  · intro hi v bm w hse hm
    have hS : hasS s.sub = true := by unfold hasS; rw [hi]; rfl
    cases hf : findC cs SUB with
    | none =>
      have := verSub_none se v bm cs s.sub w hse hm hf
      rw [show (rr (m6 s cs) (b6 s cs) 8).map se = some (se 3) by unfold m6; rw [hS, noC_none hf]; rfl]
      exact this
    | some c =>
      obtain ⟨hmem, hn⟩ := findC_mem hf
      have ht := ok_text (valid_ok hv hmem) (.inr hn)
      have := verSub_yes se v bm cs s.sub w c hse hm hf ht.1 (ok_text_ne ht)
      rw [show (rr (m6 s cs) (b6 s cs) 8).map se = if (c.v.t.toList == s.sub.toList) then none else some (se 8) by
        unfold m6 b6; rw [hS, noC_some hf, isC_some hf]
        cases (c.v.t.toList == s.sub.toList) <;> rfl]
      exact this
  · intro hi
    have hS : hasS s.sub = false := by unfold hasS; rw [hi]; rfl
    unfold m6 b6; rw [hS]; rfl

theorem rr_len (m b : Bool) (x : Nat) : (oL (rr m b x)).length ≤ 1 := oL_len _
theorem gather_len (m1 b1 m2 b2 m3 b3 m4 b4 m5 b5 m6 b6 : Bool) : (gather m1 b1 m2 b2 m3 b3 m4 b4 m5 b5 m6 b6).length ≤ 6 := by
  unfold gather
  have h1 := rr_len m1 b1 5; have h2 := rr_len m2 b2 9; have h3 := rr_len m3 b3 6; have h4 := rr_len m4 b4 4; have h5 := rr_len m5 b5 7; have h6 := rr_len m6 b6 8
  simp only [List.length_append, List.length_nil]
  omega

/-- impl.Validate of right claims by right settings. -/
theorem validate_right (se : Nat → Addr) (s : St) (cs : List Cl) (a : Option Addr) (n cap : Nat) (w : World) (hse : Sen w se) (hs : StAt w s) (hA : Asked s) (hm : CsAt w a n cs) (hv : Valid cs) :
    Calls Tryz.prog 13 #[.agg s.vals, .slice a n cap] w (GivesInts (numsTo (wrongs s cs) 16) w) :=
  validate13 se s cs _ _ _ _ _ _ (checks_of se s cs hv hm.lens hA hs.a.1) a n cap w hse hs hA.fine hm (valid_fine hv hm.lens) (Nat.le_trans (gather_len _ _ _ _ _ _ _ _ _ _ _ _) (by decide)) (gather_lt _ _ _ _ _ _ _ _ _ _ _ _)
end Go.Proofs.YtgaaehpmbkjhlaaGreatDoor
