/- diag.List.Merge, Len, Shown (seat b6003736a). -/
import Derived.Test.Qxb6003736aAdd
namespace Go.Proofs.Qxb6003736a.Diag
open Go.RowKit
set_option linter.unusedVariables false

theorem len13 (p : Nat) (v : Value) (cnt : Int) (w : World) (hL : LS w p v cnt) :
    Calls Try.prog 13 #[.pointer (some ⟨p, 0, none⟩)] w fun e w' => e = .returned (.int .i64 cnt) ∧ w' = w := by
  obtain ⟨c0, c1, fr⟩ := hL.cells
  clear hL
  go_enter Try.func13, Try.ntmps13
  go_wp2
  go_ret
  exact ⟨rfl, rfl⟩

theorem shown14 (p : Nat) (v : Value) (cnt : Int) (w : World) (hL : LS w p v cnt) :
    Calls Try.prog 14 #[.pointer (some ⟨p, 0, none⟩)] w fun e w' => e = .returned v ∧ w' = w := by
  obtain ⟨c0, c1, fr⟩ := hL.cells
  clear hL
  go_enter Try.func14, Try.ntmps14
  go_wp2
  go_ret
  exact ⟨rfl, rfl⟩

/-- One Add, in plain words. -/
def lo (t : Int) (ds : List D) : List D := ds.filter (fun y => y.fl < t)
def hi (t : Int) (ds : List D) : List D := ds.filter (fun y => ¬ y.fl < t)
def add1 (ds : List D) (d : D) : List D := (lo d.fl ds ++ d :: hi d.fl ds).take 50
/-- The file lines rise. -/
def Up (ds : List D) : Prop := ds.Pairwise (fun a b => a.fl < b.fl)
theorem lo_hi (t : Int) (ds : List D) (h : Up ds) : lo t ds ++ hi t ds = ds := by
  induction ds with
  | nil => rfl
  | cons y r ih =>
    obtain ⟨h1, h2⟩ := List.pairwise_cons.1 h
    by_cases hy : y.fl < t
    · have e1 : lo t (y :: r) = y :: lo t r := by simp [lo, hy]
      have e2 : hi t (y :: r) = hi t r := by simp [hi, hy]
      rw [e1, e2, List.cons_append, ih h2]
    · have e0 : lo t r = [] := by
        rw [lo, List.filter_eq_nil_iff]
        intro z hz
        have := h1 z hz
        simp
        omega
      have e3 : hi t r = r := by
        rw [hi, List.filter_eq_self]
        intro z hz
        have := h1 z hz
        simp
        omega
      have e1 : lo t (y :: r) = [] := by rw [← e0]; simp [lo, hy]
      have e2 : hi t (y :: r) = y :: hi t r := by rw [hi, List.filter_cons_of_pos (by simpa using hy)]; rfl
      rw [e1, e2, e3]; rfl

theorem mem_lo {t : Int} {ds : List D} {y : D} : y ∈ lo t ds ↔ y ∈ ds ∧ y.fl < t := by simp [lo]
theorem mem_hi {t : Int} {ds : List D} {y : D} : y ∈ hi t ds ↔ y ∈ ds ∧ t ≤ y.fl := by simp [hi]
theorem add1_up (ds : List D) (d : D) (h : Up ds) (hne : ∀ x ∈ ds, x.fl ≠ d.fl) : Up (add1 ds d) := by
  refine List.Pairwise.sublist (List.take_sublist _ _) (List.pairwise_append.2 ⟨h.sublist List.filter_sublist, List.pairwise_cons.2 ⟨fun y hy => ?_, h.sublist List.filter_sublist⟩, fun a ha b hb => ?_⟩)
  · obtain ⟨h1, h2⟩ := mem_hi.1 hy
    have := hne y h1
    omega
  · obtain ⟨_, h1⟩ := mem_lo.1 ha
    rcases List.mem_cons.1 hb with rfl | hb
    · exact h1
    · obtain ⟨_, h2⟩ := mem_hi.1 hb
      omega
theorem add1_len (ds : List D) (d : D) : (add1 ds d).length ≤ 50 := by simp [add1]; omega
theorem add1_mem {ds : List D} {d x : D} (h : x ∈ add1 ds d) : x ∈ ds ∨ x = d := by
  have h' := List.mem_of_mem_take h
  rcases List.mem_append.1 h' with h1 | h1
  · exact .inl (mem_lo.1 h1).1
  · rcases List.mem_cons.1 h1 with h2 | h2
    · exact .inr h2
    · exact .inl (mem_hi.1 h2).1
theorem add11' (p : Nat) (v : Value) (cnt : Int) (ds : List D) (d : D) (w : World) (hL : LS w p v cnt) (hs : SL w v ds) (hlen : ds.length ≤ 50) (hbd : ∀ x ∈ ds, Bd x) (hd : Bd d) (h0 : 0 ≤ cnt) (h1 : cnt ≤ 1048576) (hp : v.ownBlock ≠ some p)
    (hu : Up ds) (hne : ∀ x ∈ ds, x.fl ≠ d.fl) :
    Calls Try.prog 11 #[.pointer (some ⟨p, 0, none⟩), d.val] w fun e w' => e = .returned (.tuple #[]) ∧ AddPost w w' p v cnt (add1 ds d) := by
  have e := lo_hi d.fl ds hu
  refine add11 p v cnt (lo d.fl ds) (hi d.fl ds) d w hL (by rw [e]; exact hs) (by rw [e]; exact hlen) (by rw [e]; exact hbd) hd h0 h1 hp (fun y hy => (mem_lo.1 hy).2) (fun y hy => ?_)
  obtain ⟨h2, h3⟩ := mem_hi.1 hy
  have := hne y h2
  omega

end Go.Proofs.Qxb6003736a.Diag
