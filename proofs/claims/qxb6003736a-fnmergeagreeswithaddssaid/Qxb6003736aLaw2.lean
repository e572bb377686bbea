/- The firsts of each line (seat b6003736a): no Go in sight. -/
import Derived.Test.Qxb6003736aLaw
namespace Go.Proofs.Qxb6003736a.Diag
set_option linter.unusedVariables false

/-- Is element k the first of its line? -/
def IsFirst (O : List D) (k : Nat) : Prop := ∀ q, q < k → (O.getD q D.no).fl ≠ (O.getD k D.no).fl
open Classical in
/-- The firsts among the first k, in their order. -/
noncomputable def Fk (O : List D) : Nat → List D
  | 0 => []
  | k + 1 => if IsFirst O k then Fk O k ++ [O.getD k D.no] else Fk O k
theorem Fk_yes {O : List D} {k : Nat} (h : IsFirst O k) : Fk O (k + 1) = Fk O k ++ [O.getD k D.no] := by rw [Fk, if_pos h]
theorem Fk_no {O : List D} {k : Nat} (h : ¬ IsFirst O k) : Fk O (k + 1) = Fk O k := by rw [Fk, if_neg h]
theorem mem_Fk (O : List D) (x : D) : ∀ k, x ∈ Fk O k ↔ ∃ j, j < k ∧ O.getD j D.no = x ∧ IsFirst O j
  | 0 => by simp [Fk]
  | k + 1 => by
    have ih := mem_Fk O x k
    by_cases h : IsFirst O k
    · rw [Fk_yes h, List.mem_append, ih]
      constructor
      · rintro (⟨j, h1, h2, h3⟩ | h1)
        · exact ⟨j, by omega, h2, h3⟩
        · exact ⟨k, by omega, (List.mem_singleton.1 h1).symm, h⟩
      · rintro ⟨j, h1, h2, h3⟩
        rcases Nat.lt_or_ge j k with hj | hj
        · exact .inl ⟨j, hj, h2, h3⟩
        · obtain rfl : j = k := by omega
          exact .inr (by rw [← h2]; exact List.mem_singleton.2 rfl)
    · rw [Fk_no h, ih]
      constructor
      · rintro ⟨j, h1, h2, h3⟩
        exact ⟨j, by omega, h2, h3⟩
      · rintro ⟨j, h1, h2, h3⟩
        rcases Nat.lt_or_ge j k with hj | hj
        · exact ⟨j, hj, h2, h3⟩
        · obtain rfl : j = k := by omega
          exact absurd h3 h
theorem Fk_nodup (O : List D) : ∀ k, ((Fk O k).map D.fl).Nodup
  | 0 => by simp [Fk]
  | k + 1 => by
    have ih := Fk_nodup O k
    by_cases h : IsFirst O k
    · rw [Fk_yes h, List.map_append, List.nodup_append]
      refine ⟨ih, by simp, fun a ha b hb => ?_⟩
      obtain ⟨y, hy, rfl⟩ := List.mem_map.1 ha
      obtain ⟨j, h1, h2, h3⟩ := (mem_Fk O y k).1 hy
      have hb' : b = (O.getD k D.no).fl := by simpa using hb
      rw [hb', ← h2]
      exact h j h1
    · rw [Fk_no h]; exact ih

theorem mem_cmpt : ∀ (r : List D) (p : D), Sorted (p :: r) → ∀ y, y ∈ cmpt p r ↔ (y ∈ r ∧ p.fl < y.fl ∧ ∀ z ∈ r, z.fl = y.fl → y = z ∨ y.line < z.line)
  | [], p, _, y => by simp [cmpt]
  | c :: r, p, h, y => by
    obtain ⟨h1, h2⟩ := List.pairwise_cons.1 h
    obtain ⟨h3, h4⟩ := List.pairwise_cons.1 h2
    have ih := mem_cmpt r c h2 y
    have hpc := h1 c (by simp)
    rw [cmpt]
    by_cases he : c.fl = p.fl
    · rw [if_pos he, ih]
      constructor
      · rintro ⟨a1, a2, a3⟩
        refine ⟨by simp [a1], by omega, fun z hz hzy => ?_⟩
        rcases List.mem_cons.1 hz with rfl | hz
        · omega
        · exact a3 z hz hzy
      · rintro ⟨a1, a2, a3⟩
        rcases List.mem_cons.1 a1 with rfl | a1
        · omega
        · exact ⟨a1, by omega, fun z hz hzy => a3 z (by simp [hz]) hzy⟩
    · rw [if_neg he, List.mem_cons, ih]
      have hlt : p.fl < c.fl := by unfold Lt at hpc; omega
      constructor
      · rintro (rfl | ⟨a1, a2, a3⟩)
        · refine ⟨by simp, hlt, fun z hz hzy => ?_⟩
          rcases List.mem_cons.1 hz with rfl | hz
          · exact .inl rfl
          · have := h3 z hz
            unfold Lt at this
            exact .inr (by omega)
        · refine ⟨by simp [a1], by omega, fun z hz hzy => ?_⟩
          rcases List.mem_cons.1 hz with rfl | hz
          · omega
          · exact a3 z hz hzy
      · rintro ⟨a1, a2, a3⟩
        rcases List.mem_cons.1 a1 with rfl | a1
        · exact .inl rfl
        · have hcy := h3 y a1
          have hlt2 : c.fl < y.fl := by
            rcases hcy with h | ⟨h, hl⟩
            · exact h
            · rcases a3 c (by simp) h with h' | h'
              · rw [h'] at hl; omega
              · omega
          exact .inr ⟨a1, hlt2, fun z hz hzy => a3 z (by simp [hz]) hzy⟩
theorem mem_cpt (S : List D) (h : Sorted S) (y : D) : y ∈ cpt S ↔ (y ∈ S ∧ ∀ z ∈ S, z.fl = y.fl → y = z ∨ y.line < z.line) := by
  cases S with
  | nil => simp [cpt]
  | cons x r =>
    obtain ⟨h1, h2⟩ := List.pairwise_cons.1 h
    rw [cpt, List.mem_cons, mem_cmpt r x h y]
    constructor
    · rintro (rfl | ⟨a1, a2, a3⟩)
      · refine ⟨by simp, fun z hz hzy => ?_⟩
        rcases List.mem_cons.1 hz with rfl | hz
        · exact .inl rfl
        · have := h1 z hz
          unfold Lt at this
          exact .inr (by omega)
      · refine ⟨by simp [a1], fun z hz hzy => ?_⟩
        rcases List.mem_cons.1 hz with rfl | hz
        · omega
        · exact a3 z hz hzy
    · rintro ⟨a1, a3⟩
      rcases List.mem_cons.1 a1 with rfl | a1
      · exact .inl rfl
      · have hcy := h1 y a1
        have hlt2 : x.fl < y.fl := by
          rcases hcy with h | ⟨h, hl⟩
          · exact h
          · rcases a3 x (by simp) h with h' | h'
            · rw [h'] at hl; omega
            · omega
        exact .inr ⟨a1, hlt2, fun z hz hzy => a3 z (by simp [hz]) hzy⟩

/-- The compacted sorted batch has the members of the firsts. -/
theorem cpt_firsts (S O : List D) (hp : S.Perm O) (hs : Sorted S) (hr : Rise O) (y : D) : y ∈ cpt S ↔ y ∈ Fk O O.length := by
  rw [mem_cpt S hs y, mem_Fk]
  have hg : ∀ j (h : j < O.length), O.getD j D.no = O[j] := fun j h => by simp [List.getD, h]
  constructor
  · rintro ⟨a1, a2⟩
    obtain ⟨j, hj, hjy⟩ := List.getElem_of_mem (hp.mem_iff.1 a1)
    refine ⟨j, hj, by rw [hg j hj, hjy], fun q hq he => ?_⟩
    rw [hg q (by omega), hg j hj, hjy] at he
    have hlt := (List.pairwise_iff_getElem.1 hr) q j (by omega) hj hq
    rw [hjy] at hlt
    rcases a2 O[q] (hp.mem_iff.2 (List.getElem_mem _)) he with h | h
    · rw [← h] at hlt; omega
    · omega
  · rintro ⟨j, hj, hjy, hf⟩
    rw [hg j hj] at hjy
    refine ⟨hp.mem_iff.2 (by rw [← hjy]; exact List.getElem_mem _), fun z hz hzy => ?_⟩
    obtain ⟨q, hq, hqz⟩ := List.getElem_of_mem (hp.mem_iff.1 hz)
    rcases Nat.lt_trichotomy q j with h | h | h
    · exfalso
      have := hf q h
      rw [hg q hq, hg j hj, hqz, hjy] at this
      exact this hzy
    · subst h
      exact .inl (by rw [← hjy, hqz])
    · have := (List.pairwise_iff_getElem.1 hr) j q hj hq h
      rw [hqz, hjy] at this
      exact .inr this
theorem cpt_nodup (S : List D) (hs : Sorted S) : ((cpt S).map D.fl).Nodup := by
  have h := (cpt_up S hs).2
  rw [List.Nodup, List.pairwise_map]
  exact h.imp (fun h => by omega)

end Go.Proofs.Qxb6003736a.Diag
