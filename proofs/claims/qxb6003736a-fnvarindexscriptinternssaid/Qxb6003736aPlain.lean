/- Plain laws on lists of strings (seat b6003736a): no Go in sight. -/
import Derived.Lib.SlicesS
namespace Go.Proofs.Qxb6003736a.Plain
open Go.Lib (idxOfS idxFromS)

/-- The distinct strings in first-seen order. -/
def step (acc : List ByteArray) (s : ByteArray) : List ByteArray := if 0 ≤ idxOfS acc s then acc else acc ++ [s]
theorem step_hit {acc : List ByteArray} {s : ByteArray} (h : s ∈ acc) : step acc s = acc := by unfold step; rw [if_pos ((Lib.idxOfS_nonneg_iff acc s).2 h)]
theorem step_miss {acc : List ByteArray} {s : ByteArray} (h : s ∉ acc) : step acc s = acc ++ [s] := by unfold step; rw [if_neg (fun e => h ((Lib.idxOfS_nonneg_iff acc s).1 e))]
def uniq (ss : List ByteArray) : List ByteArray := ss.foldl step []

theorem uniq_snoc (l : List ByteArray) (s : ByteArray) : uniq (l ++ [s]) = step (uniq l) s := by simp [uniq, List.foldl_append]

theorem uniq_take (ss : List ByteArray) (k : Nat) (h : k < ss.length) : uniq (ss.take (k + 1)) = step (uniq (ss.take k)) (ss[k]) := by
  rw [List.take_succ_eq_append_getElem h, uniq_snoc]

theorem foldl_prefix (l acc : List ByteArray) : ∃ m, l.foldl step acc = acc ++ m := by
  induction l generalizing acc with
  | nil => exact ⟨[], by simp⟩
  | cons x l ih =>
    obtain ⟨m, hm⟩ := ih (step acc x)
    by_cases hx : x ∈ acc
    · exact ⟨m, by rw [List.foldl_cons, hm, step_hit hx]⟩
    · exact ⟨x :: m, by rw [List.foldl_cons, hm, step_miss hx]; simp⟩

theorem uniq_prefix (ss : List ByteArray) (k : Nat) : ∃ m, uniq ss = uniq (ss.take k) ++ m := by
  have e : uniq ss = (ss.drop k).foldl step (uniq (ss.take k)) := by
    unfold uniq
    rw [← List.foldl_append, List.take_append_drop]
  rw [e]
  exact foldl_prefix _ _

theorem mem_step (acc : List ByteArray) (s x : ByteArray) : x ∈ step acc s ↔ x ∈ acc ∨ x = s := by
  by_cases h : s ∈ acc
  · rw [step_hit h]
    constructor
    · exact Or.inl
    · rintro (h | rfl) <;> assumption
  · rw [step_miss h]; simp

theorem mem_foldl (l acc : List ByteArray) (x : ByteArray) : x ∈ l.foldl step acc ↔ x ∈ acc ∨ x ∈ l := by
  induction l generalizing acc with
  | nil => simp
  | cons y l ih => rw [List.foldl_cons, ih, mem_step]; simp [or_assoc]

theorem mem_uniq (ss : List ByteArray) (x : ByteArray) : x ∈ uniq ss ↔ x ∈ ss := by simp [uniq, mem_foldl]

theorem length_step (acc : List ByteArray) (s : ByteArray) : (step acc s).length ≤ acc.length + 1 := by
  unfold step; split <;> simp

theorem length_foldl (l acc : List ByteArray) : (l.foldl step acc).length ≤ acc.length + l.length := by
  induction l generalizing acc with
  | nil => simp
  | cons y l ih => rw [List.foldl_cons]; have := ih (step acc y); have := length_step acc y; simp; omega

theorem length_uniq (ss : List ByteArray) : (uniq ss).length ≤ ss.length := by have := length_foldl ss []; simpa [uniq] using this

theorem idxFrom_append (x : ByteArray) (l m : List ByteArray) (i : Nat) (h : x ∈ l) : idxFromS (l ++ m) x i = idxFromS l x i := by
  induction l generalizing i with
  | nil => simp at h
  | cons y l ih =>
    by_cases e : y = x
    · simp [idxFromS, e]
    · have : x ∈ l := by
        rcases List.mem_cons.1 h with h | h
        · exact absurd h.symm e
        · exact h
      simp [idxFromS, e, ih _ this]

theorem idx_append (x : ByteArray) (l m : List ByteArray) (h : x ∈ l) : idxOfS (l ++ m) x = idxOfS l x := idxFrom_append x l m 0 h

theorem idxFrom_snoc (x : ByteArray) (l : List ByteArray) (i : Nat) (h : x ∉ l) : idxFromS (l ++ [x]) x i = ((i + l.length : Nat) : Int) := by
  induction l generalizing i with
  | nil => simp [idxFromS]
  | cons y l ih =>
    have e : ¬ y = x := fun e => h (by simp [e])
    have h' : x ∉ l := fun e' => h (by simp [e'])
    simp only [List.cons_append, idxFromS, if_neg e, ih (i + 1) h', List.length_cons]
    congr 1
    omega

theorem idx_snoc (x : ByteArray) (l : List ByteArray) (h : x ∉ l) : idxOfS (l ++ [x]) x = (l.length : Int) := by
  have := idxFrom_snoc x l 0 h
  simpa [idxOfS] using this

theorem idxFrom_get (x : ByteArray) (l : List ByteArray) (i : Nat) (h : x ∈ l) : ∃ j, j < l.length ∧ idxFromS l x i = ((i + j : Nat) : Int) ∧ l.getD j ByteArray.empty = x := by
  induction l generalizing i with
  | nil => simp at h
  | cons y l ih =>
    by_cases e : y = x
    · exact ⟨0, by simp, by simp [idxFromS, e], by simp [e]⟩
    · have : x ∈ l := by
        rcases List.mem_cons.1 h with h | h
        · exact absurd h.symm e
        · exact h
      obtain ⟨j, hj, h1, h2⟩ := ih (i + 1) this
      refine ⟨j + 1, by simp; omega, ?_, by simpa using h2⟩
      simp only [idxFromS, if_neg e, h1]
      congr 1
      omega

theorem idx_get (x : ByteArray) (l : List ByteArray) (h : x ∈ l) : ∃ j, j < l.length ∧ idxOfS l x = (j : Int) ∧ l.getD j ByteArray.empty = x := by
  obtain ⟨j, h1, h2, h3⟩ := idxFrom_get x l 0 h
  exact ⟨j, h1, by simpa [idxOfS] using h2, h3⟩

theorem idx_inj (x y : ByteArray) (l : List ByteArray) (hx : x ∈ l) (hy : y ∈ l) : idxOfS l x = idxOfS l y ↔ x = y := by
  constructor
  · intro h
    obtain ⟨j, _, h2, h3⟩ := idx_get x l hx
    obtain ⟨j', _, h2', h3'⟩ := idx_get y l hy
    have : j = j' := by omega
    subst this
    rw [← h3, ← h3']
  · intro h; rw [h]

theorem idx_bound (x : ByteArray) (l : List ByteArray) : -1 ≤ idxOfS l x ∧ idxOfS l x ≤ l.length := by
  by_cases h : x ∈ l
  · obtain ⟨j, h1, h2, _⟩ := idx_get x l h; omega
  · have : idxOfS l x = -1 := by
      have := Lib.idxOfS_miss l l.length x (fun j hj e => h (by rw [← e]; simp [hj]))
      rwa [List.take_length] at this
    omega

end Go.Proofs.Qxb6003736a.Plain
