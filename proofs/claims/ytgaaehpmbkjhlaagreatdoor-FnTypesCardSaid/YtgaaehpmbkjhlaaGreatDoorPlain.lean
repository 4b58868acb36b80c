/- Plain facts on right claims: at most six, each fine, each of its kind. No conditions. -/
import Derived.Test.YtgaaehpmbkjhlaaGreatDoorWSpecAud
namespace Go.Proofs.YtgaaehpmbkjhlaaGreatDoor
open Go Go.RowKit

theorem nodup_bound : ∀ (m : Nat) (l : List Nat), l.Nodup → (∀ x ∈ l, x < m) → l.length ≤ m
  | 0, l, _, hb => by
    cases l with
    | nil => simp
    | cons x l => exact absurd (hb x (by simp)) (by omega)
  | m + 1, l, hd, hb => by
    by_cases hm : m ∈ l
    · have h1 := nodup_bound m (l.erase m) (hd.erase m) (fun x hx => by
        have h2 := (hd.mem_erase_iff).1 hx
        have := hb x h2.2
        have := h2.1
        omega)
      rw [List.length_erase_of_mem hm] at h1
      omega
    · have h1 := nodup_bound m l hd (fun x hx => by
        have := hb x hx
        have : x ≠ m := fun e => hm (e ▸ hx)
        omega)
      omega

/-- A name's number. -/
def code (s : ByteArray) : Nat := if s = EXP then 0 else if s = NBF then 1 else if s = IAT then 2 else if s = ISS then 3 else if s = SUB then 4 else if s = AUD then 5 else 6

theorem code_names : code EXP = 0 ∧ code NBF = 1 ∧ code IAT = 2 ∧ code ISS = 3 ∧ code SUB = 4 ∧ code AUD = 5 := by decide

theorem OkC.names {c : Cl} (h : OkC c) : c.name = EXP ∨ c.name = NBF ∨ c.name = IAT ∨ c.name = ISS ∨ c.name = SUB ∨ c.name = AUD := by
  cases h with
  | date hn => rcases hn with h | h | h <;> simp [h]
  | text hn => rcases hn with h | h <;> simp [h]
  | aud1 hn => simp [hn]
  | aud hn => simp [hn]

theorem code_lt {c : Cl} (h : OkC c) : code c.name < 6 := by
  obtain ⟨c0, c1, c2, c3, c4, c5⟩ := code_names
  rcases h.names with h | h | h | h | h | h <;> rw [h] <;> omega
theorem code_inj {c d : Cl} (h : OkC c) (h' : OkC d) (e : code c.name = code d.name) : c.name = d.name := by
  obtain ⟨c0, c1, c2, c3, c4, c5⟩ := code_names
  rcases h.names with h | h | h | h | h | h <;> rcases h'.names with h' | h' | h' | h' | h' | h' <;> rw [h, h'] at e ⊢ <;> omega

theorem valid_len {cs : List Cl} (h : Valid cs) : cs.length ≤ 6 := by
  have h1 := nodup_bound 6 (cs.map fun c => code c.name) ?_ ?_
  · simpa using h1
  · rw [List.nodup_iff_pairwise_ne, List.pairwise_iff_getElem]
    intro i j hi hj hij e
    simp only [List.length_map] at hi hj
    simp only [List.getElem_map] at e
    exact h.2 j i hj hi hj hij (code_inj (h.1 j hj hj) (h.1 i hi hi) e.symm)
  · intro x hx
    obtain ⟨c, hc, rfl⟩ := List.mem_map.1 hx
    obtain ⟨i, hi, rfl⟩ := List.mem_iff_getElem.1 hc
    exact code_lt (h.1 i hi hi)

theorem valid_ok {cs : List Cl} (h : Valid cs) {c : Cl} (hc : c ∈ cs) : OkC c := by
  obtain ⟨i, hi, rfl⟩ := List.mem_iff_getElem.1 hc
  exact h.1 i hi hi

theorem names_small {c : Cl} (h : OkC c) : c.name.size ≤ 4096 := by
  have : EXP.size = 3 ∧ NBF.size = 3 ∧ IAT.size = 3 ∧ ISS.size = 3 ∧ SUB.size = 3 ∧ AUD.size = 3 := by decide
  obtain ⟨c0, c1, c2, c3, c4, c5⟩ := this
  rcases h.names with h | h | h | h | h | h <;> rw [h] <;> omega

theorem IsTextV.fineN {v : V} (h : IsTextV v) : FineN v := by
  obtain ⟨hk, ⟨h1, h2⟩, hn, hl⟩ := h
  refine ⟨by omega, by omega, by rw [hk]; decide, by omega, by omega, by omega⟩

theorem OkC.fine {c : Cl} (h : OkC c) (hl : c.xs.length = c.v.ln) : FineC c ∧ KindC c := by
  refine ⟨⟨names_small h, ?_⟩, ?_⟩
  · cases h with
    | date hn hk h1 h2 ht hl0 =>
      have hx : c.xs = [] := List.eq_nil_of_length_eq_zero (by omega)
      exact { k1 := by omega, k2 := by omega, k3 := by rw [hk]; decide, t := by omega, n1 := by omega, n2 := by omega, l := by omega, xs := by rw [hx]; simp }
    | text hn hv =>
      have hx : c.xs = [] := List.eq_nil_of_length_eq_zero (by have := hv.2.2.2; omega)
      exact { toFineN := hv.fineN, l := by have := hv.2.2.2; omega, xs := by rw [hx]; simp }
    | aud1 hn hv =>
      have hx : c.xs = [] := List.eq_nil_of_length_eq_zero (by have := hv.2.2.2; omega)
      exact { toFineN := hv.fineN, l := by have := hv.2.2.2; omega, xs := by rw [hx]; simp }
    | aud hn hk ht h0 h1 h2 hx =>
      exact { k1 := by omega, k2 := by omega, k3 := by rw [hk]; decide, t := by omega, n1 := by omega, n2 := by omega, l := by omega, xs := fun x hxx => ⟨(hx x hxx).fineN, (hx x hxx).2.2.2⟩ }
  · cases h with
    | date hn hk => exact .inl (.inr (.inl hk))
    | text hn hv => exact .inl (.inl hv.1)
    | aud1 hn hv => exact .inl (.inl hv.1)
    | aud hn hk ht h0 h1 h2 hx => exact .inr ⟨hk, h1, by omega, fun x hxx => .inl (hx x hxx).1⟩

theorem CsAt.lens {w : World} {a : Option Addr} {n : Nat} {cs : List Cl} (h : CsAt w a n cs) : ∀ c ∈ cs, c.xs.length = c.v.ln := by
  intro c hc
  obtain ⟨i, hi, rfl⟩ := List.mem_iff_getElem.1 hc
  obtain ⟨hl, _, hs⟩ := h
  obtain ⟨b, o, _, hcc⟩ := hs (by omega)
  exact (hcc i hi).list.1

theorem valid_fine {cs : List Cl} (h : Valid cs) (hl : ∀ c ∈ cs, c.xs.length = c.v.ln) : Fine cs :=
  ⟨by have := valid_len h; omega, fun c hc => ((valid_ok h hc).fine (hl c hc)).1, fun c hc => ((valid_ok h hc).fine (hl c hc)).2, fun i j hi hj hji => h.2 i j hi hj hi hji⟩

theorem findC_mem {cs : List Cl} {s : ByteArray} {c : Cl} (h : findC cs s = some c) : c ∈ cs ∧ c.name = s := by
  obtain ⟨i, hi, rfl, hn⟩ := findC_at h
  exact ⟨List.getElem_mem hi, hn⟩

theorem names_ne : EXP ≠ ISS ∧ EXP ≠ SUB ∧ EXP ≠ AUD ∧ NBF ≠ ISS ∧ NBF ≠ SUB ∧ NBF ≠ AUD ∧ IAT ≠ ISS ∧ IAT ≠ SUB ∧ IAT ≠ AUD ∧ ISS ≠ AUD ∧ SUB ≠ AUD := by decide

/-- A claim of a date's name is a date. -/
theorem ok_date {c : Cl} (h : OkC c) (hn : c.name = EXP ∨ c.name = NBF ∨ c.name = IAT) : c.v.k = 2 ∧ 1 ≤ c.v.n ∧ c.v.n ≤ 1099511627776 := by
  obtain ⟨e1, e2, e3, e4, e5, e6, e7, e8, e9, e10, e11⟩ := names_ne
  cases h with
  | date _ hk h1 h2 => exact ⟨hk, h1, h2⟩
  | text hn' => exfalso; rcases hn with h | h | h <;> rcases hn' with h' | h' <;> rw [h] at h' <;> contradiction
  | aud1 hn' => exfalso; rcases hn with h | h | h <;> rw [h] at hn' <;> contradiction
  | aud hn' => exfalso; rcases hn with h | h | h <;> rw [h] at hn' <;> contradiction

/-- A claim of a text's name is a text. -/
theorem ok_text {c : Cl} (h : OkC c) (hn : c.name = ISS ∨ c.name = SUB) : IsTextV c.v := by
  obtain ⟨e1, e2, e3, e4, e5, e6, e7, e8, e9, e10, e11⟩ := names_ne
  cases h with
  | date hn' => exfalso; rcases hn with h | h <;> rcases hn' with h' | h' | h' <;> rw [h] at h' <;> first | exact e1 h'.symm | exact e2 h'.symm | exact e4 h'.symm | exact e5 h'.symm | exact e7 h'.symm | exact e8 h'.symm
  | text _ hv => exact hv
  | aud1 hn' => exfalso; rcases hn with h | h <;> rw [h] at hn' <;> contradiction
  | aud hn' => exfalso; rcases hn with h | h <;> rw [h] at hn' <;> contradiction

/-- The audience of claims. -/
def audOf (cs : List Cl) : List ByteArray := match findC cs AUD with
  | none => []
  | some c => if c.v.k = 1 then [c.v.t] else c.xs.map (·.t)

theorem aud_is {cs : List Cl} (h : Valid cs) (hl : ∀ c ∈ cs, c.xs.length = c.v.ln) : AudIs cs (audOf cs) := by
  obtain ⟨e1, e2, e3, e4, e5, e6, e7, e8, e9, e10, e11⟩ := names_ne
  unfold audOf
  split
  · rename_i hf; exact .none hf
  · rename_i c hf
    obtain ⟨hm, hn⟩ := findC_mem hf
    have ho := valid_ok h hm
    split
    · rename_i hk; exact .text c hf hk
    · rename_i hk
      cases ho with
      | date hn' => exfalso; rcases hn' with h' | h' | h' <;> rw [hn] at h' <;> first | exact e3 h'.symm | exact e6 h'.symm | exact e9 h'.symm
      | text hn' => exfalso; rcases hn' with h' | h' <;> rw [hn] at h' <;> first | exact e10 h'.symm | exact e11 h'.symm
      | aud1 _ hv => exact absurd hv.1 hk
      | aud _ hk4 ht h0 h1 h2 hx => exact .list c hf hk4 (by rw [hl c hm]; exact h1) (by rw [hl c hm]; omega) (fun x hxx => (hx x hxx).1)

theorem specAud_is (a : Option Addr) (n cap : Nat) (cs : List Cl) (ss : List ByteArray) (w : World) (hm : CsAt w a n cs) (hd : ∀ i j (h : i < cs.length) (h' : j < cs.length), j < i → cs[i].name ≠ cs[j].name) (h : AudIs cs ss) :
    Calls Tryz.prog 10 #[.slice a n cap] w (GivesOwn ss w) := by
  have hl := hm.lens
  cases h with
  | none h => exact specAud_none a n cap cs w hm h
  | text c h hk => exact specAud_text a n cap cs w c hm hd h hk
  | list c h hk h1 h50 hx => exact specAud_list a n cap cs w c hm hd h hk (by rw [← hl c (findC_mem h).1]; exact h1) (by rw [← hl c (findC_mem h).1]; exact h50)

theorem findC_snoc (cs : List Cl) (c : Cl) (s : ByteArray) (h : findC cs s = none) : findC (cs ++ [c]) s = if s == c.name then some c else none := by
  unfold findC at h ⊢
  rw [List.find?_append, h]
  simp [List.find?_cons]
  split <;> simp_all
theorem findC_snoc_some (cs : List Cl) (c d : Cl) (s : ByteArray) (h : findC cs s = some d) : findC (cs ++ [c]) s = some d := by
  unfold findC at h ⊢
  rw [List.find?_append, h]; rfl
end Go.Proofs.YtgaaehpmbkjhlaaGreatDoor
