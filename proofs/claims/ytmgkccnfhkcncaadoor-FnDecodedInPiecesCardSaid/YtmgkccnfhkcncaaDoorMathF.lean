/-
  Plain Lean: where a name ends that has no escape.
-/
import Derived.Test.YtmgkccnfhkcncaaDoorSpecNm
namespace Go.Proofs.YtmgkccnfhkcncaaDoor
open Go

theorem nameS_split : ∀ (n : Nat) (l : List Nat), l.length ≤ n → ∃ p, l = p ++ (nameS l).2.1 ∧ ((∀ d ∈ p, d ≠ 92) → ∀ d ∈ p, conts d = true)
  | _, [], _ => ⟨[], rfl, fun _ d hd => by simp at hd⟩
  | 0, _ :: _, h => absurd h (by simp)
  | n + 1, c :: t, h => by
    simp only [List.length_cons] at h
    by_cases h1 : conts c = true
    · rw [nameS_conts c t h1]
      obtain ⟨p, hp, hq⟩ := nameS_split n t (by omega)
      refine ⟨c :: p, ?_, fun hn d hd => ?_⟩
      · show c :: t = c :: (p ++ (nameS t).2.1); rw [← hp]
      · rcases List.mem_cons.1 hd with rfl | hd
        · exact h1
        · exact hq (fun x hx => hn x (by simp [hx])) d hd
    · by_cases h2 : c = 92 ∧ escOk t = true
      · obtain ⟨rfl, h2⟩ := h2
        rw [nameS_esc t h2]
        obtain ⟨p, hp, _⟩ := nameS_split n (escS t).2.1 (by have := escS_len t; omega)
        obtain ⟨q, hq⟩ := escS_suf t
        refine ⟨92 :: (q ++ p), ?_, fun hn => absurd rfl (hn 92 (by simp))⟩
        show 92 :: t = 92 :: (q ++ p ++ (nameS (escS t).2.1).2.1)
        rw [List.append_assoc, ← hp, hq]
      · rw [nameS_stop c t h1 h2]
        exact ⟨[], rfl, fun _ d hd => by simp at hd⟩
theorem nameS_rest : ∀ (n : Nat) (l : List Nat), l.length ≤ n → ∀ c u, (nameS l).2.1 = c :: u → conts c = false ∧ ¬ (c = 92 ∧ escOk u = true)
  | _, [], _, c, u, h => by rw [nameS_nil] at h; simp at h
  | 0, _ :: _, h, _, _, _ => absurd h (by simp)
  | n + 1, d :: t, hl, c, u, h => by
    simp only [List.length_cons] at hl
    by_cases h1 : conts d = true
    · rw [nameS_conts d t h1] at h
      exact nameS_rest n t (by omega) c u h
    · by_cases h2 : d = 92 ∧ escOk t = true
      · obtain ⟨rfl, h2⟩ := h2
        rw [nameS_esc t h2] at h
        exact nameS_rest n (escS t).2.1 (by have := escS_len t; omega) c u h
      · rw [nameS_stop d t h1 h2] at h
        obtain ⟨rfl, rfl⟩ := List.cons.inj h
        exact ⟨by simpa using h1, h2⟩
end Go.Proofs.YtmgkccnfhkcncaaDoor
