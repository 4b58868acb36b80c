/- impl.settingsOk takes fine settings. -/
import Derived.Test.YtgaaehpmbkjhlaaGreatDoorWSet
namespace Go.Proofs.YtgaaehpmbkjhlaaGreatDoor
open Go Go.RowKit

set_option maxRecDepth 100000 in
set_option maxHeartbeats 1000000 in
theorem settingsOk_true (s : St) (w : World) (h : StAt w s) (hf : FineS s) : Calls Tryz.prog 31 #[.agg s.vals] w (YesB true w) := by
  obtain ⟨now, leeway, ma, ml, mc, ms, aa, al, ac, auds, all, iss, sub, nexp, nnbf, iat, un, pad, str⟩ := s
  obtain ⟨_, _, hm, ha, _, _, _, _, _, _⟩ := h
  obtain ⟨n0, l0, m0, u0, i0, s0⟩ := hf
  simp only at hm ha n0 l0 m0 u0 i0 s0
  unfold St.vals
  simp only
  obtain ⟨W1, hW⟩ : ∃ W1, W1 = w.alloc (.cells #[.int .i64 now, .int .i64 leeway, .slice ma ml mc, .slice aa al ac, .bool all, .string iss, .string sub, .bool nexp, .bool nnbf, .bool iat, .bool un, .bool pad, .bool str] 38) := ⟨_, rfl⟩
  have hb1 : Below w.heap.size w W1 := by rw [hW]; exact below1 _ _
  have h1 := short_true ma ml mc ms W1 (hm.below hb1) m0.1 m0.2
  have h2 := short_true aa al ac auds W1 (ha.below hb1) u0.1 u0.2
  have h3 := within_true now W1 (by omega) (by omega)
  have h4 := within_true leeway W1 (by omega) (by omega)
  have h5 := short_true (some ⟨W1.heap.size, 0, none⟩) 2 2 [iss, sub] (W1.alloc (.cells #[.string iss, .string sub] 9))
    ⟨rfl, fun _ => ⟨W1.heap.size, 0, rfl, by simp, fun j hj => by
      simp at hj
      have : j = 0 ∨ j = 1 := by omega
      rcases this with rfl | rfl <;> simp [go_sem]⟩⟩ (by decide) (fun t ht => by simp at ht; rcases ht with rfl | rfl <;> assumption)
  have hs1 : W1.heap.size = w.heap.size + 1 := by rw [hW]; simp
  rw [hs1] at h5
  have hb2 : Below w.heap.size w (W1.alloc (.cells #[.string iss, .string sub] 9)) := hb1.trans ((below1 _ _).mono hb1.size)
  rw [hW] at h1 h2 h3 h4 h5 hb2
  have H1 := Lib.hid h1
  have H2 := Lib.hid h2
  have H3 := Lib.hid h3
  have H4 := Lib.hid h4
  have H5 := Lib.hid h5
  have HB := Lib.hid hb2
  clear hs1 h1 h2 h3 h4 h5 hb1 hb2 hm ha hW W1 n0 l0 m0 u0 i0 s0
  go_enter Tryz.func31, Tryz.ntmps31
  go_wp2_with fail
  refine H3.out.mono ?_
  rintro e w' ⟨rfl, rfl⟩
  go_wp2_with fail
  refine H4.out.mono ?_
  rintro e w' ⟨rfl, rfl⟩
  go_wp2_with fail
  refine H1.out.mono ?_
  rintro e w' ⟨rfl, rfl⟩
  go_wp2_with fail
  refine H2.out.mono ?_
  rintro e w' ⟨rfl, rfl⟩
  go_wp2_with fail
  refine H5.out.mono ?_
  rintro e w' ⟨rfl, rfl⟩
  go_wp2
  go_ret
  exact ⟨rfl, HB.out⟩
end Go.Proofs.YtgaaehpmbkjhlaaGreatDoor
