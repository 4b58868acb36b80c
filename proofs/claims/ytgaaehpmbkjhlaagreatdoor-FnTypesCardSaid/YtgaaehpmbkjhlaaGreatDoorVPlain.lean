/- What is wrong with claims by settings: as the validator gathers it and as the specification tells it: the same numbers. No conditions. -/
import Derived.Test.YtgaaehpmbkjhlaaGreatDoorPlain
import Derived.Test.YtgaaehpmbkjhlaaGreatDoorWMapInt
import Derived.Test.YtgaaehpmbkjhlaaGreatDoorWVerAud
namespace Go.Proofs.YtgaaehpmbkjhlaaGreatDoor
open Go Go.RowKit

def oL : Option Nat → List Nat
  | none => []
  | some k => [k]
/-- What a check leaves: 3 where the claim is missing, x where it is wrong. -/
def rr (m b : Bool) (x : Nat) : Option Nat := if m then some 3 else if b then some x else none
theorem mem_rr (m b : Bool) (x k : Nat) : k ∈ oL (rr m b x) ↔ (k = 3 ∧ m = true) ∨ (k = x ∧ m = false ∧ b = true) := by
  cases m <;> cases b <;> simp [oL, rr]

/-- Seven truths by their numbers. -/
def FF (x4 x5 x6 x7 x8 x9 x10 : Bool) : Int → Bool := fun k => if k = 4 then x4 else if k = 5 then x5 else if k = 6 then x6 else if k = 7 then x7 else if k = 8 then x8 else if k = 9 then x9 else if k = 10 then x10 else false

section
variable (x4 x5 x6 x7 x8 x9 x10 y : Bool)
theorem ff4 : FF x4 x5 x6 x7 x8 x9 x10 4 = x4 := rfl
theorem upd4 : updI (FF x4 x5 x6 x7 x8 x9 x10) 4 y = FF y x5 x6 x7 x8 x9 x10 := by funext k; unfold updI FF; split <;> simp_all
theorem upd5 : updI (FF x4 x5 x6 x7 x8 x9 x10) 5 y = FF x4 y x6 x7 x8 x9 x10 := by funext k; unfold updI FF; split <;> simp_all
theorem upd6 : updI (FF x4 x5 x6 x7 x8 x9 x10) 6 y = FF x4 x5 y x7 x8 x9 x10 := by funext k; unfold updI FF; split <;> simp_all
theorem upd7 : updI (FF x4 x5 x6 x7 x8 x9 x10) 7 y = FF x4 x5 x6 y x8 x9 x10 := by funext k; unfold updI FF; split <;> simp_all
theorem upd8 : updI (FF x4 x5 x6 x7 x8 x9 x10) 8 y = FF x4 x5 x6 x7 y x9 x10 := by funext k; unfold updI FF; split <;> simp_all
theorem upd9 : updI (FF x4 x5 x6 x7 x8 x9 x10) 9 y = FF x4 x5 x6 x7 x8 y x10 := by funext k; unfold updI FF; split <;> simp_all
theorem upd10 : updI (FF x4 x5 x6 x7 x8 x9 x10) 10 y = FF x4 x5 x6 x7 x8 x9 y := by funext k; unfold updI FF; split <;> simp_all
theorem ff_start : (fun _ => false) = FF false false false false false false false := by funext k; unfold FF; simp
end

/-- The numbers of the first m truths. -/
def truthsTo (f : Int → Bool) (m : Nat) : List Nat := ((List.range m).filter fun (k : Nat) => f ((k : Int) + 1)).map (· + 1)
theorem truthsTo_yes {f : Int → Bool} {m : Nat} (h : f ((m : Int) + 1) = true) : truthsTo f (m + 1) = truthsTo f m ++ [m + 1] := by
  unfold truthsTo
  rw [List.range_succ, List.filter_append, List.map_append]
  simp [h]
theorem truthsTo_no {f : Int → Bool} {m : Nat} (h : f ((m : Int) + 1) = false) : truthsTo f (m + 1) = truthsTo f m := by
  unfold truthsTo
  rw [List.range_succ, List.filter_append, List.map_append]
  simp [h]
theorem truthsTo_le (f : Int → Bool) (m : Nat) : (truthsTo f m).length ≤ m := by
  unfold truthsTo
  rw [List.length_map]
  exact Nat.le_trans (List.length_filter_le _ _) (by simp)

/-- The gathered numbers. -/
def gather (m1 b1 m2 b2 m3 b3 m4 b4 m5 b5 m6 b6 : Bool) : List Nat := ((((([] ++ oL (rr m1 b1 5)) ++ oL (rr m2 b2 9)) ++ oL (rr m3 b3 6)) ++ oL (rr m4 b4 4)) ++ oL (rr m5 b5 7)) ++ oL (rr m6 b6 8)

theorem gather_law (m1 b1 m2 b2 m3 b3 m4 b4 m5 b5 m6 b6 : Bool) (h1 : (m1 && b1) = false) (h2 : (m2 && b2) = false) (h3 : m3 = false) (h4 : (m4 && b4) = false) (h5 : (m5 && b5) = false) (h6 : (m6 && b6) = false) :
    truthsTo (FF ((((m1 || m2) || m5) || m6) || m4) b4 b1 b3 b5 b6 b2) 16 = numsTo (gather m1 b1 m2 b2 m3 b3 m4 b4 m5 b5 m6 b6) 16 := by
  unfold truthsTo numsTo
  congr 1
  apply List.filter_congr
  intro k hk
  have hk16 : k < 16 := List.mem_range.1 hk
  clear hk
  subst h3
  have hm : (k ∈ gather m1 b1 m2 b2 false b3 m4 b4 m5 b5 m6 b6) ↔ ((((((k = 3 ∧ m1 = true) ∨ (k = 5 ∧ m1 = false ∧ b1 = true)) ∨ ((k = 3 ∧ m2 = true) ∨ (k = 9 ∧ m2 = false ∧ b2 = true))) ∨ (k = 6 ∧ b3 = true)) ∨ ((k = 3 ∧ m4 = true) ∨ (k = 4 ∧ m4 = false ∧ b4 = true))) ∨ ((k = 3 ∧ m5 = true) ∨ (k = 7 ∧ m5 = false ∧ b5 = true))) ∨ ((k = 3 ∧ m6 = true) ∨ (k = 8 ∧ m6 = false ∧ b6 = true)) := by
    unfold gather
    simp only [List.mem_append, mem_rr, List.not_mem_nil, false_or]
    simp
  rw [Bool.eq_iff_iff, decide_eq_true_iff, hm]
  clear hm
  have hc : k = 0 ∨ k = 1 ∨ k = 2 ∨ k = 3 ∨ k = 4 ∨ k = 5 ∨ k = 6 ∨ k = 7 ∨ k = 8 ∨ k = 9 ∨ k = 10 ∨ k = 11 ∨ k = 12 ∨ k = 13 ∨ k = 14 ∨ k = 15 := by omega
  rcases hc with rfl | rfl | rfl | rfl | rfl | rfl | rfl | rfl | rfl | rfl | rfl | rfl | rfl | rfl | rfl | rfl
  · simp [FF]
  · simp [FF]
  · simp [FF]
  · simp [FF]
    cases m1 <;> cases m2 <;> cases m4 <;> cases m5 <;> cases m6 <;> simp
  · simp [FF]; cases m4 <;> cases b4 <;> simp_all
  · simp [FF]; cases m1 <;> cases b1 <;> simp_all
  · simp [FF]
  · simp [FF]; cases m5 <;> cases b5 <;> simp_all
  · simp [FF]; cases m6 <;> cases b6 <;> simp_all
  · simp [FF]; cases m2 <;> cases b2 <;> simp_all
  · simp [FF]
  · simp [FF]
  · simp [FF]
  · simp [FF]
  · simp [FF]
  · simp [FF]

theorem gather_lt (m1 b1 m2 b2 m3 b3 m4 b4 m5 b5 m6 b6 : Bool) : ∀ k ∈ gather m1 b1 m2 b2 m3 b3 m4 b4 m5 b5 m6 b6, k < 16 := by
  intro k hk
  unfold gather at hk
  simp only [List.mem_append, mem_rr, List.not_mem_nil, false_or] at hk
  omega

/-- The leeway in seconds. -/
def St.lw (s : St) : Int := s.leeway / 1000000000
def noC (cs : List Cl) (s : ByteArray) : Bool := (findC cs s).isNone
/-- A claim that is there and fulfils p. -/
def isC (cs : List Cl) (s : ByteArray) (p : Cl → Bool) : Bool := match findC cs s with | none => false | some c => p c
theorem noC_isC (cs : List Cl) (s : ByteArray) (p : Cl → Bool) : (noC cs s && isC cs s p) = false := by
  unfold noC isC
  cases findC cs s <;> simp

def hasS (t : ByteArray) : Bool := !(t.toList == [])
def m1 (s : St) (cs : List Cl) : Bool := noC cs EXP && s.nexp
def b1 (s : St) (cs : List Cl) : Bool := isC cs EXP fun c => decide (c.v.n + s.lw ≤ s.now)
def m2 (s : St) (cs : List Cl) : Bool := noC cs NBF && s.nnbf
def b2 (s : St) (cs : List Cl) : Bool := isC cs NBF fun c => decide (s.now < c.v.n - s.lw)
def b3 (s : St) (cs : List Cl) : Bool := s.iat && isC cs IAT fun c => decide (s.now < c.v.n - s.lw)
/-- How many of the expected ones are there. -/
def hits (s : St) (cs : List Cl) : Nat := (s.auds.filter fun x => hasT (audOf cs) x).length
def m4 (s : St) (cs : List Cl) : Bool := decide (0 < s.al) && decide ((audOf cs).length = 0)
def b4 (s : St) (cs : List Cl) : Bool := decide (0 < s.al) && (decide (0 < (audOf cs).length) && (decide (hits s cs = 0) || (s.all && decide (hits s cs < s.al))))
def m5 (s : St) (cs : List Cl) : Bool := hasS s.iss && noC cs ISS
def b5 (s : St) (cs : List Cl) : Bool := hasS s.iss && isC cs ISS fun c => !(c.v.t.toList == s.iss.toList)
def m6 (s : St) (cs : List Cl) : Bool := hasS s.sub && noC cs SUB
def b6 (s : St) (cs : List Cl) : Bool := hasS s.sub && isC cs SUB fun c => !(c.v.t.toList == s.sub.toList)

def wrongs (s : St) (cs : List Cl) : List Nat := gather (m1 s cs) (b1 s cs) (m2 s cs) (b2 s cs) false (b3 s cs) (m4 s cs) (b4 s cs) (m5 s cs) (b5 s cs) (m6 s cs) (b6 s cs)
def WF (s : St) (cs : List Cl) : Int → Bool := FF ((((m1 s cs || m2 s cs) || m5 s cs) || m6 s cs) || m4 s cs) (b4 s cs) (b1 s cs) (b3 s cs) (b5 s cs) (b6 s cs) (b2 s cs)

theorem wrongs_law (s : St) (cs : List Cl) : truthsTo (WF s cs) 16 = numsTo (wrongs s cs) 16 := by
  refine gather_law _ _ _ _ _ _ _ _ _ _ _ _ ?_ ?_ rfl ?_ ?_ ?_
  · unfold m1 b1; have := noC_isC cs EXP fun c => decide (c.v.n + s.lw ≤ s.now); revert this; cases noC cs EXP <;> simp; intro h _; exact h
  · unfold m2 b2; have := noC_isC cs NBF fun c => decide (s.now < c.v.n - s.lw); revert this; cases noC cs NBF <;> simp; intro h _; exact h
  · unfold m4 b4
    by_cases h : (audOf cs).length = 0
    · simp [h]
    · simp [h]
  · unfold m5 b5; have := noC_isC cs ISS fun c => !(c.v.t.toList == s.iss.toList); revert this; cases noC cs ISS <;> cases hasS s.iss <;> simp
  · unfold m6 b6; have := noC_isC cs SUB fun c => !(c.v.t.toList == s.sub.toList); revert this; cases noC cs SUB <;> cases hasS s.sub <;> simp

theorem among_iff (ss : List ByteArray) (x : ByteArray) : among ss x = true ↔ x ∈ ss := by
  unfold among
  rw [List.any_eq_true]
  constructor
  · rintro ⟨y, hy, h⟩
    rw [← eq_of_lists h]; exact hy
  · intro h
    exact ⟨x, h, by simp⟩
theorem hasT_iff (ss : List ByteArray) (x : ByteArray) : hasT ss x = true ↔ x ∈ ss := by
  unfold hasT
  rw [List.any_eq_true]
  constructor
  · rintro ⟨y, hy, h⟩
    rw [eq_of_lists h]; exact hy
  · intro h
    exact ⟨x, h, by simp⟩

/-- No one of the expected is there. -/
theorem none_law (ss want : List ByteArray) : ss.any (among want) = !decide ((want.filter fun x => hasT ss x).length = 0) := by
  rw [Bool.eq_iff_iff]
  simp only [List.any_eq_true, Bool.not_eq_true', decide_eq_false_iff_not, List.length_eq_zero_iff, List.filter_eq_nil_iff, Classical.not_forall, Classical.not_not]
  constructor
  · rintro ⟨x, hx, h⟩
    exact ⟨x, (among_iff _ _).1 h, (hasT_iff _ _).2 hx⟩
  · rintro ⟨x, hx, h⟩
    exact ⟨x, (hasT_iff _ _).1 h, (among_iff _ _).2 hx⟩
theorem all_law (ss want : List ByteArray) : want.all (among ss) = !decide ((want.filter fun x => hasT ss x).length < want.length) := by
  rw [Bool.eq_iff_iff]
  simp only [List.all_eq_true, Bool.not_eq_true', decide_eq_false_iff_not, Nat.not_lt]
  constructor
  · intro h
    have : want.filter (fun x => hasT ss x) = want := List.filter_eq_self.2 fun x hx => (hasT_iff _ _).2 ((among_iff _ _).1 (h x hx))
    rw [this]; exact Nat.le_refl _
  · intro h x hx
    have := (List.length_filter_eq_length_iff.1 (Nat.le_antisymm (List.length_filter_le _ _) h)) x hx
    exact (among_iff _ _).2 ((hasT_iff _ _).1 this)
end Go.Proofs.YtgaaehpmbkjhlaaGreatDoor
