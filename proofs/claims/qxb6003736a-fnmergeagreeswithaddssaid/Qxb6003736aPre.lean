/- What main leans on (seat b6003736a): the diagnostics of the two lists of lines, a new row of them, Add on a world that has grown. -/
import Derived.Test.Qxb6003736aInts4
import Derived.Test.Qxb6003736aTwo
namespace Go.Proofs.Qxb6003736a.Diag
open Go.RowKit
set_option linter.unusedVariables false

theorem made_enc (n : Nat) : (madeCells D.no.val.cells (n * 4)).toList = enc (List.replicate n D.no) := by
  apply List.ext_getElem?
  intro i
  rcases Nat.lt_or_ge i (n * 4) with h | h
  · have e1 := enc_get (List.replicate n D.no) (i / 4) (i % 4) (by simp; omega) (by omega)
    rw [show i / 4 * 4 + i % 4 = i by omega] at e1
    rw [e1]
    rw [show (List.replicate n D.no).getD (i / 4) D.no = D.no by simp [List.getD, show i / 4 < n by omega]]
    rw [Array.getElem?_toList]
    simp only [madeCells, Array.getElem?_map]
    rw [Array.getElem?_eq_getElem (by simpa using h)]
    simp only [Array.getElem_range, Option.map_some]
    obtain ⟨r, hr⟩ : ∃ r, i % 4 = r := ⟨_, rfl⟩
    have hz : D.no.val.cells.size = 4 := rfl
    rw [hz, hr]
    have : r < 4 := by omega
    match r, this with
    | 0, _ => rfl
    | 1, _ => rfl
    | 2, _ => rfl
    | 3, _ => rfl
  · rw [List.getElem?_eq_none (by rw [Array.length_toList, size_madeCells]; exact h), List.getElem?_eq_none (by rw [enc_length]; simp; omega)]
theorem madeD {w w1 : World} {n : Nat} (h : w1.ownsRow w.heap.size 30 4 (.slice (some ⟨w.heap.size, 0, none⟩) n n) n (madeCells D.no.val.cells (n * 4)).toList) : Rw w1 w.heap.size (List.replicate n D.no) := by
  rcases h.2 with ⟨h1, _⟩ | ⟨g, cap, cur, hv, hg, hh, h1, h2, h3, h4⟩
  · simp at h1
  · simp at hv
    obtain ⟨rfl, rfl⟩ := hv
    have : cur.toList = enc (List.replicate n D.no) := by rw [← made_enc, ← h4, List.take_of_length_le (by simp; omega)]
    unfold Rw
    rw [hh, ← this]

theorem addA2 (W0 w1 wr : World) (M pa pb : Nat) (xs ys : List D) (ca cb : Int) (d : D) (h : St W0 w1 M pa pb xs ys ca cb) (hg : w1.grownBy wr none) (hd : Bd d) (h0 : 0 ≤ ca) (h1 : ca ≤ 1048576) (hne : ∀ x ∈ xs, x.fl ≠ d.fl) :
    Calls Try.prog 11 #[.pointer (some ⟨pa, 0, none⟩), d.val] wr fun e w' => e = .returned (.tuple #[]) ∧ St W0 w' M pa pb (add1 xs d) ys (ca + 1) cb ∧ ∀ k, w1.heap.size ≤ k → k < wr.heap.size → w'.heap[k]? = wr.heap[k]? := by
  have h' := h.grown none hg (fun g e => by simp at e)
  obtain ⟨va, vb, a1, a2, b1, b2, o1, o2, o3, f, g1, g2, hpp, p1, p2, p3⟩ := h
  have hb : ∀ k, k < w1.heap.size → wr.heap[k]? = w1.heap[k]? := fun k hk => hg.block k hk (by simp)
  have hA1 : LS wr pa va ca := a1.same (hb _ (by omega))
  have hA2 : SL wr va xs := a2.same (fun g e => hb _ (o1 g e).2)
  have key := add11' pa va ca xs d wr hA1 hA2 g1.2.1 g1.2.2 hd h0 h1 (fun e => by have := (o1 _ e).1; omega) g1.1 hne
  refine key.mono ?_
  have hgs := hg.size
  have f' : Fr W0 wr M pa pb := ⟨hg.os.trans f.os, hg.tape.trans f.tape, hg.output.trans f.output, Nat.le_trans f.size hg.size, fun k h1 h2 h3 => (hb k (by omega)).trans (f.block k h1 h2 h3)⟩
  have hB1 : LS wr pb vb cb := b1.same (hb _ (by omega))
  have hB2 : SL wr vb ys := b2.same (fun g e => hb _ (o2 g e).2)
  rintro e w' ⟨rfl, v', n1, n2, K, n4⟩
  have hks := K.size
  have hown : ∀ k, some k = va.ownBlock → M ≤ k ∧ k < w1.heap.size := fun k e => o1 k e.symm
  refine ⟨rfl, ⟨v', vb, n1, n2, hB1.same (K.block pb (by omega) hpp.symm (fun e => by have := (hown _ e).1; omega)), hB2.same (fun g e => K.block g (by have := (o2 g e).2; omega) (by have := (o2 g e).1; omega) (fun e' => o3 g e'.symm e)), fun g e => ⟨?_, n2.own g e⟩, fun g e => ⟨(o2 g e).1, by have := (o2 g e).2; omega⟩, fun g e e' => ?_, ⟨K.os.trans f'.os, K.tape.trans f'.tape, K.output.trans f'.output, Nat.le_trans f'.size K.size, fun k h1 h2 h3 => (K.block k (by omega) h2 (fun e => by have := (hown _ e).1; omega)).trans (f'.block k h1 h2 h3)⟩, g1.add hd hne, g2, hpp, p1, p2, by omega⟩, fun k hk1 hk2 => K.block k hk2 (by omega) (fun e => by have := (hown _ e).2; omega)⟩
  · rcases n4 g e with h | h
    · exact (o1 g h).1
    · omega
  · rcases n4 g e with h | h
    · exact o3 g h e'
    · have := (o2 g e').2; omega

/-- The diagnostics that stand before. -/
def pD (zs : List Int) (i : Nat) : D := ⟨-1 - (i : Int), zs.getD i 0, { data := #[112, 114, 101] }, false⟩
def P (zs : List Int) (k : Nat) : List D := (List.range k).map (pD zs)
/-- The batch. -/
def bD (zs : List Int) (j : Nat) : D := ⟨j, zs.getD j 0, { data := #[] }, (j : Int) % 3 == 0⟩
def O (zs : List Int) (k : Nat) : List D := (List.range k).map (bD zs)
theorem P_succ (zs : List Int) (k : Nat) : P zs (k + 1) = P zs k ++ [pD zs k] := by simp [P, List.range_succ]
theorem O_succ (zs : List Int) (k : Nat) : O zs (k + 1) = O zs k ++ [bD zs k] := by simp [O, List.range_succ]
theorem O_length (zs : List Int) (k : Nat) : (O zs k).length = k := by simp [O]
theorem O_getD (zs : List Int) (k j : Nat) (h : j < k) : (O zs k).getD j D.no = bD zs j := by simp [O, List.getD, h]
theorem getD_mem (zs : List Int) (i : Nat) (h : i < zs.length) : zs.getD i 0 ∈ zs := by
  rw [show zs.getD i 0 = zs[i] by simp [List.getD, h]]
  exact List.getElem_mem h
theorem getD_ne (zs : List Int) (hn : zs.Nodup) (i k : Nat) (hi : i < k) (hk : k < zs.length) : zs.getD i 0 ≠ zs.getD k 0 := by
  rw [show zs.getD i 0 = zs[i]'(by omega) by simp [List.getD, show i < zs.length by omega], show zs.getD k 0 = zs[k] by simp [List.getD, hk]]
  exact (List.pairwise_iff_getElem.1 hn) i k (by omega) hk hi
theorem O_rise (zs : List Int) (k : Nat) : Rise (O zs k) := by
  unfold Rise
  rw [List.pairwise_iff_getElem]
  intro i j hi hj hij
  simp [O, bD]
  exact hij
theorem mem_O {zs : List Int} {k : Nat} {x : D} (h : x ∈ O zs k) : ∃ j, j < k ∧ x = bD zs j := by
  obtain ⟨j, h1, h2⟩ := List.mem_map.1 h
  exact ⟨j, List.mem_range.1 h1, h2.symm⟩
theorem mem_P {zs : List Int} {k : Nat} {x : D} (h : x ∈ P zs k) : ∃ j, j < k ∧ x = pD zs j := by
  obtain ⟨j, h1, h2⟩ := List.mem_map.1 h
  exact ⟨j, List.mem_range.1 h1, h2.symm⟩
theorem mem_Ps {zs : List Int} {k : Nat} {x : D} (h : x ∈ (P zs k).foldl add1 []) : ∃ j, j < k ∧ x = pD zs j := by
  rcases mem_fold _ _ _ h with h1 | h1
  · simp at h1
  · exact mem_P h1
/-- The row that loop 2 has filled as far as k. -/
def halfD (zs : List Int) (n k : Nat) : List D := O zs k ++ List.replicate (n - k) D.no
theorem halfD_zero (zs : List Int) (n : Nat) : halfD zs n 0 = List.replicate n D.no := by simp [halfD, O]
theorem halfD_full (zs : List Int) (n : Nat) : halfD zs n n = O zs n := by simp [halfD]
theorem halfD_length (zs : List Int) (n k : Nat) (h : k ≤ n) : (halfD zs n k).length = n := by simp [halfD, O_length]; omega
theorem halfD_set (zs : List Int) (n k : Nat) (h : k < n) : (halfD zs n k).set k (bD zs k) = halfD zs n (k + 1) := by
  unfold halfD
  rw [List.set_append_right _ _ (by rw [O_length]; omega), O_length, Nat.sub_self, show n - k = (n - (k + 1)) + 1 by omega, List.replicate_succ, List.set_cons_zero, O_succ, List.append_assoc]
  rfl

/-- What was there before the two Lists is there still. -/
theorem St.below {W4 W5 wr : World} {xs ys : List D} {ca cb : Int} (h : St W5 wr (W4.heap.size + 2) W4.heap.size (W4.heap.size + 1) xs ys ca cb) (hb : Below W4.heap.size W4 W5) : Below W4.heap.size W4 wr := by
  obtain ⟨va, vb, a1, a2, b1, b2, o1, o2, o3, f, g1, g2, hpp, p1, p2, p3⟩ := h
  exact ⟨f.os.trans hb.os, f.tape.trans hb.tape, f.output.trans hb.output, Nat.le_trans hb.size f.size, fun k hk => (f.block k (by omega) (by omega) (by omega)).trans (hb.block k hk)⟩

/-- Two new Lists. -/
theorem St.new (W4 W5 : World) (hW : W5 = (W4.alloc (Obj.cells #[Value.slice none 0 0, Value.int IntKind.i64 0] 28)).alloc (Obj.cells #[Value.slice none 0 0, Value.int IntKind.i64 0] 28)) :
    St W5 W5 (W4.heap.size + 2) W4.heap.size (W4.heap.size + 1) [] [] 0 0 ∧ Below W4.heap.size W4 W5 := by
  subst hW
  refine ⟨⟨.slice none 0 0, .slice none 0 0, ?_, .inl ⟨rfl, rfl⟩, ?_, .inl ⟨rfl, rfl⟩, fun g e => by simp [Value.ownBlock] at e, fun g e => by simp [Value.ownBlock] at e, fun g e => by simp [Value.ownBlock] at e, ⟨rfl, rfl, rfl, Nat.le_refl _, fun _ _ _ _ => rfl⟩, Good.nil, Good.nil, by omega, by omega, by omega, by simp⟩, ?_⟩
  · unfold LS
    rw [Below.heap_alloc _ _ _ (by simp), heap_alloc_new]
  · unfold LS
    have : W4.heap.size + 1 = (W4.alloc (Obj.cells #[Value.slice none 0 0, Value.int IntKind.i64 0] 28)).heap.size := by simp
    rw [this, heap_alloc_new]
  · exact ((Below.refl _ _).alloc (Nat.le_refl _) _).alloc (by simp) _

theorem Fk_len (O : List D) : ∀ k, (Fk O k).length ≤ k
  | 0 => by simp [Fk]
  | k + 1 => by
    have ih := Fk_len O k
    by_cases h : IsFirst O k
    · rw [Fk_yes h, List.length_append]; simp; omega
    · rw [Fk_no h]; omega
theorem isFirst_O (zs : List Int) (n j : Nat) (hj : j < n) : IsFirst (O zs n) j ↔ ∀ q, q < j → zs.getD q 0 ≠ zs.getD j 0 := by
  unfold IsFirst
  constructor
  · intro h q hq
    have := h q hq
    rw [O_getD _ _ _ hj, O_getD _ _ _ (by omega)] at this
    exact this
  · intro h q hq
    rw [O_getD _ _ _ hj, O_getD _ _ _ (by omega)]
    exact h q hq
theorem SL.form {w : World} {v : Value} {ds : List D} (h : SL w v ds) : ∃ a cap, v = .slice a ds.length cap ∧ (Hid (ds.length < 1) ∨ ∃ b J, a = some ⟨b, 0, none⟩ ∧ Rw w b (ds ++ J)) := by
  rcases h with ⟨rfl, rfl⟩ | ⟨b, cap, J, hv, hR, hc, hcm⟩
  · exact ⟨none, 0, rfl, .inl (show 0 < 1 by omega)⟩
  · exact ⟨_, cap, hv, .inr ⟨b, J, rfl, hR⟩⟩

theorem St.good {W0 wr : World} {M pa pb : Nat} {xs ys : List D} {ca cb : Int} (h : St W0 wr M pa pb xs ys ca cb) : Good xs ∧ Good ys := by
  obtain ⟨va, vb, a1, a2, b1, b2, o1, o2, o3, f, g1, g2, r⟩ := h
  exact ⟨g1, g2⟩
/-- The plain law, at the two roads. -/
theorem both_ways (zs : List Int) (n : Nat) (L S : List D) (hp : S.Perm (O zs n)) (hs : Sorted S) (hL : Good L) (hne : ∀ x ∈ L, ∀ o ∈ O zs n, x.fl ≠ o.fl) :
    (Fk (O zs n) n).foldl add1 L = (cpt S).foldl add1 L ∧ (Fk (O zs n) n).length = (cpt S).length := by
  have hm : ∀ x, x ∈ Fk (O zs n) n ↔ x ∈ cpt S := fun x => by
    have := cpt_firsts S (O zs n) hp hs (O_rise zs n) x
    rw [O_length] at this
    exact this.symm
  have hne2 : ∀ x ∈ L, ∀ o ∈ Fk (O zs n) n, x.fl ≠ o.fl := fun x hx o ho => hne x hx o (hp.mem_iff.1 ((cpt_up S hs).1 o ((hm o).1 ho)))
  exact ⟨same_list L _ _ hL.1 hL.2.1 (Fk_nodup _ _) (cpt_nodup S hs) hm hne2, same_len _ _ (Fk_nodup _ _) (cpt_nodup S hs) hm⟩
/-- A first is none of what has been added. -/
theorem first_new (zs : List Int) (n j : Nat) (L : List D) (hj : j < n) (hf : IsFirst (O zs n) j) (hne : ∀ x ∈ L, ∀ o ∈ O zs n, x.fl ≠ o.fl) : ∀ x ∈ (Fk (O zs n) j).foldl add1 L, x.fl ≠ (bD zs j).fl := by
  intro x hx
  rcases mem_fold _ _ _ hx with h | h
  · exact hne x h _ (List.mem_map.2 ⟨j, List.mem_range.2 hj, rfl⟩)
  · obtain ⟨i, hi, he, _⟩ := (mem_Fk _ x j).1 h
    have := hf i hi
    rw [he, O_getD _ _ _ hj] at this
    exact this

end Go.Proofs.Qxb6003736a.Diag
