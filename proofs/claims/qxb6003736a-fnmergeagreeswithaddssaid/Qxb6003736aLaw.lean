/- The plain law of Merge and Add (seat b6003736a): no Go in sight. -/
import Derived.Test.Qxb6003736aMrg2
namespace Go.Proofs.Qxb6003736a.Diag
set_option linter.unusedVariables false

/-- Sorted insertion. -/
def ins (ds : List D) (d : D) : List D := lo d.fl ds ++ d :: hi d.fl ds
theorem add1_ins (ds : List D) (d : D) : add1 ds d = (ins ds d).take 50 := rfl
theorem mem_ins {ds : List D} {d x : D} : x ∈ ins ds d ↔ x ∈ ds ∨ x = d := by
  rw [ins, List.mem_append, List.mem_cons, mem_lo, mem_hi]
  constructor
  · rintro (⟨h, _⟩ | h | ⟨h, _⟩)
    · exact .inl h
    · exact .inr h
    · exact .inl h
  · rintro (h | h)
    · by_cases hx : x.fl < d.fl
      · exact .inl ⟨h, hx⟩
      · exact .inr (.inr ⟨h, by omega⟩)
    · exact .inr (.inl h)
theorem ins_up (ds : List D) (d : D) (h : Up ds) (hne : ∀ x ∈ ds, x.fl ≠ d.fl) : Up (ins ds d) := by
  refine List.pairwise_append.2 ⟨h.sublist List.filter_sublist, List.pairwise_cons.2 ⟨fun y hy => ?_, h.sublist List.filter_sublist⟩, fun a ha b hb => ?_⟩
  · obtain ⟨h1, h2⟩ := mem_hi.1 hy
    have := hne y h1
    omega
  · obtain ⟨_, h1⟩ := mem_lo.1 ha
    rcases List.mem_cons.1 hb with rfl | hb
    · exact h1
    · obtain ⟨_, h2⟩ := mem_hi.1 hb
      omega
theorem ins_len (ds : List D) (d : D) (h : Up ds) : (ins ds d).length = ds.length + 1 := by
  have := congrArg List.length (lo_hi d.fl ds h)
  simp [ins] at this ⊢
  omega
theorem lo_append (t : Int) (a b : List D) : lo t (a ++ b) = lo t a ++ lo t b := List.filter_append ..
theorem hi_append (t : Int) (a b : List D) : hi t (a ++ b) = hi t a ++ hi t b := List.filter_append ..
theorem take_ins (k : Nat) (ds : List D) (d : D) (h : Up ds) : (ins (ds.take k) d).take k = (ins ds d).take k := by
  rcases Nat.lt_or_ge k ds.length with hk | hk
  · have hl : (ds.take k).length = k := by simp; omega
    have he : ds = ds.take k ++ ds.drop k := (List.take_append_drop k ds).symm
    generalize ds.take k = a at *
    generalize ds.drop k = b at *
    subst he
    have hua : Up a := (List.pairwise_append.1 h).1
    have hlh := lo_hi d.fl a hua
    by_cases hb : lo d.fl b = []
    · have e : ins (a ++ b) d = ins a d ++ hi d.fl b := by simp [ins, lo_append, hi_append, hb]
      rw [e, List.take_append_of_le_length (by rw [ins_len a d hua]; omega)]
    · obtain ⟨y, hy⟩ := List.exists_mem_of_ne_nil _ hb
      obtain ⟨hy1, hy2⟩ := mem_lo.1 hy
      have ha : lo d.fl a = a := by
        rw [lo, List.filter_eq_self]
        intro z hz
        have := (List.pairwise_append.1 h).2.2 z hz y hy1
        simp
        omega
      have e1 : ins a d = a ++ d :: hi d.fl a := by rw [ins, ha]
      have e2 : ins (a ++ b) d = a ++ (lo d.fl b ++ d :: hi d.fl (a ++ b)) := by rw [ins, lo_append, ha]; simp
      rw [e1, e2, List.take_left' hl, List.take_left' hl]
  · rw [List.take_of_length_le hk]

theorem fold_take (ys : List D) (ds : List D) (hu : Up ds) (hy : (ys.map D.fl).Nodup) (hne : ∀ x ∈ ds, ∀ o ∈ ys, x.fl ≠ o.fl) : ys.foldl add1 (ds.take 50) = (ys.foldl ins ds).take 50 := by
  induction ys generalizing ds with
  | nil => rfl
  | cons y ys ih =>
    rw [List.foldl_cons, List.foldl_cons, add1_ins, take_ins 50 ds y hu]
    rw [List.map_cons, List.nodup_cons] at hy
    refine ih (ins ds y) (ins_up ds y hu (fun x hx => hne x hx y (by simp))) hy.2 (fun x hx o ho => ?_)
    rcases mem_ins.1 hx with h | h
    · exact hne x h o (by simp [ho])
    · rw [h]
      intro e
      exact hy.1 (by rw [e]; exact List.mem_map_of_mem ho)
theorem fold_ins (ys : List D) (ds : List D) (hu : Up ds) (hy : (ys.map D.fl).Nodup) (hne : ∀ x ∈ ds, ∀ o ∈ ys, x.fl ≠ o.fl) :
    Up (ys.foldl ins ds) ∧ (ys.foldl ins ds).length = ds.length + ys.length ∧ ∀ x, x ∈ ys.foldl ins ds ↔ x ∈ ds ∨ x ∈ ys := by
  induction ys generalizing ds with
  | nil => exact ⟨hu, rfl, fun x => by simp⟩
  | cons y ys ih =>
    rw [List.foldl_cons]
    rw [List.map_cons, List.nodup_cons] at hy
    obtain ⟨i1, i2, i3⟩ := ih (ins ds y) (ins_up ds y hu (fun x hx => hne x hx y (by simp))) hy.2 (fun x hx o ho => by
      rcases mem_ins.1 hx with h | h
      · exact hne x h o (by simp [ho])
      · rw [h]
        intro e
        exact hy.1 (by rw [e]; exact List.mem_map_of_mem ho))
    refine ⟨i1, by rw [i2, ins_len ds y hu]; simp; omega, fun x => ?_⟩
    rw [i3, mem_ins, List.mem_cons, or_assoc]
theorem up_ext : ∀ (a b : List D), Up a → Up b → (∀ x, x ∈ a ↔ x ∈ b) → a = b
  | [], [], _, _, _ => rfl
  | [], y :: b, _, _, h => by have := (h y).2 (by simp); simp at this
  | x :: a, [], _, _, h => by have := (h x).1 (by simp); simp at this
  | x :: a, y :: b, ha, hb, h => by
    obtain ⟨a1, a2⟩ := List.pairwise_cons.1 ha
    obtain ⟨b1, b2⟩ := List.pairwise_cons.1 hb
    have hxy : x = y := by
      rcases List.mem_cons.1 ((h x).1 (by simp)) with h1 | h1
      · exact h1
      · rcases List.mem_cons.1 ((h y).2 (by simp)) with h2 | h2
        · exact h2.symm
        · have := b1 x h1
          have := a1 y h2
          omega
    subst hxy
    rw [up_ext a b a2 b2 (fun z => ?_)]
    constructor
    · intro hz
      rcases List.mem_cons.1 ((h z).1 (by simp [hz])) with h1 | h1
      · have := a1 z hz; rw [h1] at this; omega
      · exact h1
    · intro hz
      rcases List.mem_cons.1 ((h z).2 (by simp [hz])) with h1 | h1
      · have := b1 z hz; rw [h1] at this; omega
      · exact h1

/-- Two batches of one membership leave one list. -/
theorem same_list (ds ys zs : List D) (hu : Up ds) (hl : ds.length ≤ 50) (hy : (ys.map D.fl).Nodup) (hz : (zs.map D.fl).Nodup) (hm : ∀ x, x ∈ ys ↔ x ∈ zs) (hne : ∀ x ∈ ds, ∀ o ∈ ys, x.fl ≠ o.fl) :
    ys.foldl add1 ds = zs.foldl add1 ds := by
  have hne2 : ∀ x ∈ ds, ∀ o ∈ zs, x.fl ≠ o.fl := fun x hx o ho => hne x hx o ((hm o).2 ho)
  have e1 := fold_take ys ds hu hy hne
  have e2 := fold_take zs ds hu hz hne2
  rw [List.take_of_length_le hl] at e1 e2
  obtain ⟨a1, a2, a3⟩ := fold_ins ys ds hu hy hne
  obtain ⟨b1, b2, b3⟩ := fold_ins zs ds hu hz hne2
  rw [e1, e2, up_ext _ _ a1 b1 (fun x => by rw [a3, b3, hm])]
theorem same_len (ys zs : List D) (hy : (ys.map D.fl).Nodup) (hz : (zs.map D.fl).Nodup) (hm : ∀ x, x ∈ ys ↔ x ∈ zs) : ys.length = zs.length := by
  obtain ⟨a1, a2, a3⟩ := fold_ins ys [] List.Pairwise.nil hy (fun x hx => by simp at hx)
  obtain ⟨b1, b2, b3⟩ := fold_ins zs [] List.Pairwise.nil hz (fun x hx => by simp at hx)
  have := up_ext _ _ a1 b1 (fun x => by rw [a3, b3, hm])
  rw [this] at a2
  simp at a2 b2
  omega

end Go.Proofs.Qxb6003736a.Diag
