/- Two Lists side by side (seat b6003736a). -/
import Derived.Test.Qxb6003736aLaw2
import Derived.Below
namespace Go.Proofs.Qxb6003736a.Diag
open Go.RowKit
set_option linter.unusedVariables false

def Good (xs : List D) : Prop := Up xs ∧ xs.length ≤ 50 ∧ ∀ x ∈ xs, Bd x
theorem Good.nil : Good [] := ⟨List.Pairwise.nil, by simp, fun x hx => by simp at hx⟩
theorem Good.add {xs : List D} {d : D} (h : Good xs) (hd : Bd d) (hne : ∀ x ∈ xs, x.fl ≠ d.fl) : Good (add1 xs d) := by
  refine ⟨add1_up _ _ h.1 hne, add1_len _ _, fun x hx => ?_⟩
  rcases add1_mem hx with h1 | h1
  · exact h.2.2 x h1
  · rw [h1]; exact hd
theorem mem_fold : ∀ (ys ds : List D) (x : D), x ∈ ys.foldl add1 ds → x ∈ ds ∨ x ∈ ys
  | [], ds, x, h => .inl h
  | y :: ys, ds, x, h => by
    rcases mem_fold ys (add1 ds y) x h with h1 | h1
    · rcases add1_mem h1 with h2 | h2
      · exact .inl h2
      · exact .inr (by simp [h2])
    · exact .inr (by simp [h1])
theorem Good.fold : ∀ (ys ds : List D), Good ds → (ys.map D.fl).Nodup → (∀ y ∈ ys, Bd y) → (∀ x ∈ ds, ∀ o ∈ ys, x.fl ≠ o.fl) → Good (ys.foldl add1 ds)
  | [], ds, h, _, _, _ => h
  | y :: ys, ds, h, hn, hb, hne => by
    rw [List.map_cons, List.nodup_cons] at hn
    refine Good.fold ys (add1 ds y) (h.add (hb y (by simp)) (fun x hx => hne x hx y (by simp))) hn.2 (fun z hz => hb z (by simp [hz])) (fun x hx o ho => ?_)
    rcases add1_mem hx with h2 | h2
    · exact hne x h2 o (by simp [ho])
    · rw [h2]
      intro e
      exact hn.1 (by rw [e]; exact List.mem_map_of_mem ho)

/-- What was there below M, but for the two Lists' blocks, is there still. -/
structure Fr (W0 wr : World) (M pa pb : Nat) : Prop where
  os : wr.os = W0.os
  tape : wr.tape = W0.tape
  output : wr.output = W0.output
  size : W0.heap.size ≤ wr.heap.size
  block : ∀ k, k < M → k ≠ pa → k ≠ pb → wr.heap[k]? = W0.heap[k]?

/-- Two Lists, and what they hold. -/
def St (W0 wr : World) (M pa pb : Nat) (xs ys : List D) (ca cb : Int) : Prop :=
  ∃ va vb, LS wr pa va ca ∧ SL wr va xs ∧ LS wr pb vb cb ∧ SL wr vb ys ∧ (∀ g, va.ownBlock = some g → M ≤ g ∧ g < wr.heap.size) ∧ (∀ g, vb.ownBlock = some g → M ≤ g ∧ g < wr.heap.size) ∧ (∀ g, va.ownBlock = some g → vb.ownBlock ≠ some g) ∧ Fr W0 wr M pa pb ∧ Good xs ∧ Good ys ∧ pa ≠ pb ∧ pa < M ∧ pb < M ∧ M ≤ wr.heap.size

theorem St.swap {W0 wr : World} {M pa pb : Nat} {xs ys : List D} {ca cb : Int} (h : St W0 wr M pa pb xs ys ca cb) : St W0 wr M pb pa ys xs cb ca := by
  obtain ⟨va, vb, a1, a2, b1, b2, o1, o2, o3, f, g1, g2, hpp, p1, p2, p3⟩ := h
  exact ⟨vb, va, b1, b2, a1, a2, o2, o1, fun g h1 h2 => o3 g h2 h1, ⟨f.os, f.tape, f.output, f.size, fun k h1 h2 h3 => f.block k h1 h3 h2⟩, g2, g1, hpp.symm, p2, p1, p3⟩

theorem SL.own {w : World} {v : Value} {ds : List D} (h : SL w v ds) (g : Nat) (hg : v.ownBlock = some g) : g < w.heap.size := by
  rcases h with ⟨rfl, _⟩ | ⟨b, cap, J, rfl, hR, hc, hcm⟩
  · simp [Value.ownBlock] at hg
  · have : b = g := by simpa [Value.ownBlock] using hg
    subst this
    exact hR.lt
theorem SL.same {w w' : World} {v : Value} {ds : List D} (h : SL w v ds) (hg : ∀ g, v.ownBlock = some g → w'.heap[g]? = w.heap[g]?) : SL w' v ds := by
  rcases h with h | ⟨b, cap, J, hv, hR, hc, hcm⟩
  · exact .inl h
  · exact .inr ⟨b, cap, J, hv, hR.same (hg b (by rw [hv]; simp [Value.ownBlock])), hc, hcm⟩

theorem St.grown {W0 wr W : World} {M pa pb : Nat} {xs ys : List D} {ca cb : Int} (h : St W0 wr M pa pb xs ys ca cb) (o : Option Nat) (hg : wr.grownBy W o) (ho : ∀ g, o = some g → wr.heap.size ≤ g) : St W0 W M pa pb xs ys ca cb := by
  obtain ⟨va, vb, a1, a2, b1, b2, o1, o2, o3, f, g1, g2, hpp, p1, p2, p3⟩ := h
  have hb : ∀ k, k < wr.heap.size → W.heap[k]? = wr.heap[k]? := fun k hk => hg.block k hk (fun e => by have := ho k e.symm; omega)
  refine ⟨va, vb, a1.same (hb _ (by omega)), a2.same (fun g e => hb _ (o1 g e).2), b1.same (hb _ (by omega)), b2.same (fun g e => hb _ (o2 g e).2), fun g e => ⟨(o1 g e).1, by have := (o1 g e).2; have := hg.size; omega⟩, fun g e => ⟨(o2 g e).1, by have := (o2 g e).2; have := hg.size; omega⟩, o3, ⟨hg.os.trans f.os, hg.tape.trans f.tape, hg.output.trans f.output, Nat.le_trans f.size hg.size, fun k h1 h2 h3 => (hb k (by omega)).trans (f.block k h1 h2 h3)⟩, g1, g2, hpp, p1, p2, by have := hg.size; omega⟩

theorem addA (W0 wr : World) (M pa pb : Nat) (xs ys : List D) (ca cb : Int) (d : D) (h : St W0 wr M pa pb xs ys ca cb) (hd : Bd d) (h0 : 0 ≤ ca) (h1 : ca ≤ 1048576) (hne : ∀ x ∈ xs, x.fl ≠ d.fl) :
    Calls Try.prog 11 #[.pointer (some ⟨pa, 0, none⟩), d.val] wr fun e w' => e = .returned (.tuple #[]) ∧ St W0 w' M pa pb (add1 xs d) ys (ca + 1) cb := by
  obtain ⟨va, vb, a1, a2, b1, b2, o1, o2, o3, f, g1, g2, hpp, p1, p2, p3⟩ := h
  refine (add11' pa va ca xs d wr a1 a2 g1.2.1 g1.2.2 hd h0 h1 (fun e => by have := (o1 _ e).1; omega) g1.1 hne).mono ?_
  rintro e w' ⟨rfl, v', n1, n2, K, n4⟩
  have hown : ∀ k, some k = va.ownBlock → M ≤ k ∧ k < wr.heap.size := fun k e => o1 k e.symm
  refine ⟨rfl, v', vb, n1, n2, b1.same (K.block pb (by omega) hpp.symm (fun e => by have := (hown _ e).1; omega)), b2.same (fun g e => K.block g (o2 g e).2 (by have := (o2 g e).1; omega) (fun e' => o3 g e'.symm e)), fun g e => ⟨?_, n2.own g e⟩, fun g e => ⟨(o2 g e).1, by have := (o2 g e).2; have := K.size; omega⟩, fun g e e' => ?_, ⟨K.os.trans f.os, K.tape.trans f.tape, K.output.trans f.output, Nat.le_trans f.size K.size, fun k h1 h2 h3 => (K.block k (by omega) h2 (fun e => by have := (hown _ e).1; omega)).trans (f.block k h1 h2 h3)⟩, g1.add hd hne, g2, hpp, p1, p2, by have := K.size; omega⟩
  · rcases n4 g e with h | h
    · exact (o1 g h).1
    · omega
  · rcases n4 g e with h | h
    · exact o3 g h e'
    · have := (o2 g e').2; omega

theorem addB (W0 wr : World) (M pa pb : Nat) (xs ys : List D) (ca cb : Int) (d : D) (h : St W0 wr M pa pb xs ys ca cb) (hd : Bd d) (h0 : 0 ≤ cb) (h1 : cb ≤ 1048576) (hne : ∀ x ∈ ys, x.fl ≠ d.fl) :
    Calls Try.prog 11 #[.pointer (some ⟨pb, 0, none⟩), d.val] wr fun e w' => e = .returned (.tuple #[]) ∧ St W0 w' M pa pb xs (add1 ys d) ca (cb + 1) :=
  (addA W0 wr M pb pa ys xs cb ca d h.swap hd h0 h1 hne).mono fun e w' ⟨he, hs⟩ => ⟨he, hs.swap⟩

theorem mergeA (W0 w1 wr : World) (M pa pb : Nat) (xs ys O : List D) (ca cb : Int) (n : Nat) (h : St W0 w1 M pa pb xs ys ca cb) (hg : w1.grownBy wr (some w1.heap.size)) (hR : Rw wr w1.heap.size O) (hn : O.length = n) (hnb : n ≤ 1024) (hob : ∀ x ∈ O, Bd x) (hri : Rise O)
    (h0 : 0 ≤ ca) (h1 : ca ≤ 2048) (hne : ∀ x ∈ xs, ∀ o ∈ O, x.fl ≠ o.fl) :
    Calls Try.prog 12 #[.pointer (some ⟨pa, 0, none⟩), .slice (some ⟨w1.heap.size, 0, none⟩) n n] wr fun e w' => e = .returned (.tuple #[]) ∧ ∃ S, S.Perm O ∧ Sorted S ∧ St W0 w' M pa pb ((cpt S).foldl add1 xs) ys (ca + (cpt S).length) cb := by
  obtain ⟨va, vb, a1, a2, b1, b2, o1, o2, o3, f, g1, g2, hpp, p1, p2, p3⟩ := h
  have hb : ∀ k, k < w1.heap.size → wr.heap[k]? = w1.heap[k]? := fun k hk => hg.block k hk (by simp; omega)
  have f' : Fr W0 wr M pa pb := ⟨hg.os.trans f.os, hg.tape.trans f.tape, hg.output.trans f.output, Nat.le_trans f.size hg.size, fun k h1 h2 h3 => (hb k (by omega)).trans (f.block k h1 h2 h3)⟩
  refine (merge12 pa va ca xs O w1.heap.size n wr (a1.same (hb _ (by omega))) (a2.same (fun g e => hb _ (o1 g e).2)) g1.2.1 g1.2.2 h0 h1 (fun e => by have := (o1 _ e).1; omega) g1.1 hn hnb hR hob hri (by omega) (fun e => by have := (o1 _ e).2; omega) hne).mono ?_
  rintro e w' ⟨rfl, S, v', hp, hs, n1, n2, K, n4⟩
  have hown : ∀ k, some k = va.ownBlock → M ≤ k ∧ k < w1.heap.size := fun k e => o1 k e.symm
  have hgs := hg.size
  have hks := K.size
  refine ⟨rfl, S, hp, hs, v', vb, n1, n2, (b1.same (hb _ (by omega))).same (K.block pb (by omega) hpp.symm (fun e => by have := (hown _ e).1; omega) (by omega)), (b2.same (fun g e => hb _ (o2 g e).2)).same (fun g e => K.block g (by have := (o2 g e).2; omega) (by have := (o2 g e).1; omega) (fun e' => o3 g e'.symm e) (by have := (o2 g e).2; omega)), fun g e => ⟨?_, n2.own g e⟩, fun g e => ⟨(o2 g e).1, by have := (o2 g e).2; omega⟩, fun g e e' => ?_, ⟨K.os.trans f'.os, K.tape.trans f'.tape, K.output.trans f'.output, Nat.le_trans f'.size K.size, fun k h1 h2 h3 => (K.block k (by omega) h2 (fun e => by have := (hown _ e).1; omega) (by omega)).trans (f'.block k h1 h2 h3)⟩, Good.fold _ _ g1 (cpt_nodup S hs) (fun y hy => hob y (hp.mem_iff.1 ((cpt_up S hs).1 y hy))) (fun x hx o ho => hne x hx o (hp.mem_iff.1 ((cpt_up S hs).1 o ho))), g2, hpp, p1, p2, by omega⟩
  · rcases n4 g e with h | h
    · exact (o1 g h).1
    · omega
  · rcases n4 g e with h | h
    · exact o3 g h e'
    · have := (o2 g e').2; omega

end Go.Proofs.Qxb6003736a.Diag
