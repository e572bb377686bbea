/- Contracts of varIndex and ZZVarIndex (seat b6003736a). -/
import Derived.Test.Qxb6003736aStrs
import Derived.Maps.AppendAt
namespace Go.Proofs.Qxb6003736a.Strs
open Go.RowKit
set_option linter.unusedVariables false

theorem ownsRow_lower {w : World} {b b' : Nat} {e : TypeId} {size : Nat} {v : Value} {n : Nat} {xs : List Value} (h : w.ownsRow b e size v n xs) (hb : b' ≤ b) : w.ownsRow b' e size v n xs := by
  refine ⟨h.1, ?_⟩
  rcases h.2 with h' | ⟨g, cap, cur, hv, hg, r⟩
  · exact .inl h'
  · exact .inr ⟨g, cap, cur, hv, Nat.le_trans hb hg, r⟩

/-- The append law once more, with one word more: the new row is the old one or a new block. -/
theorem wpList_append_own2 {P : Program} (w : World) {ops : Array Oper} {rest : List Oper} {o : Oper} {a : Act} {Q : Exit → Act → World → Prop} (hgd : o.guard = none) (s x : Operand) (t : TypeId)
    (ho : o.op = .call { callee := .builtin .append, args := #[s, x], argTypes := #[t, t] })
    (base : Nat) (e : TypeId) (i : TypeInfo) (z : Value) (size bytes : Nat) (ht : P.underlying t = some (.slice e)) (hi : P.info? e = some i) (hz : i.zero = some z)
    (hsize : i.size = size) (hby : i.bytes = bytes) (hzs : z.cells.size = size) (hsz : 0 < size)
    (v : Value) (n : Nat) (xs : List Value) (hs : a.eval s = v) (hown : w.ownsRow base e size v n xs)
    (ad : Addr) (m c : Nat) (news : List Value) (hx : a.eval x = .slice (some ad) m c) (hl : news.length = m * size) (hnews : ∀ j u, news[j]? = some u → w.cell? (ad.add j) = some u) (h1 : ∀ u ∈ news, u.oneCell' = true)
    (h63 : n + m ≤ maxLen) (hbytes : (n + m) * bytes ≤ 140737488355328) (hbase : base ≤ w.heap.size)
    (h : ∀ v' w', w'.ownsRow base e size v' (n + m) (xs ++ news) → w.grownBy w' v.ownBlock → (∀ g, v'.ownBlock = some g → v.ownBlock = some g ∨ w.heap.size ≤ g) → wpList P ops Q rest (a.put o.dst v') w') : wpList P ops Q (o :: rest) a w := by
  have fresh : ∀ (v' : Value) (w' : World), w'.ownsRow w.heap.size e size v' (n + m) (xs ++ news) → ∀ g, v'.ownBlock = some g → v.ownBlock = some g ∨ w.heap.size ≤ g := fun v' w' ho' g hg => .inr (ho'.lt g hg).1
  have wide : ∀ (w' : World) (row : Option Nat), w.grownBy w' none → w.grownBy w' row := fun w' row hg => ⟨hg.os, hg.tape, hg.output, hg.size, fun k hk _ => hg.block k hk (by simp)⟩
  rcases hown.2 with ⟨rfl, rfl⟩ | ⟨g, cap, cur, rfl, hg, hh, hnc, hcm, hcs, htk⟩
  · have hx0 : xs = [] := List.eq_nil_of_length_eq_zero (by simpa using hown.1)
    subst hx0
    exact wpList_append_own w hgd s x t ho w.heap.size e i z size bytes ht hi hz hsize hby hzs hsz _ 0 [] hs (World.ownsRow_nil _ _ _ _) ad m c news hx hl hnews h1 h63 hbytes (Nat.le_refl _)
      (fun v' w' ho' hg' _ => h v' w' (ownsRow_lower ho' hbase) hg' (fresh v' w' ho'))
  · by_cases hroom : n + m ≤ cap
    · exact wpList_append_fits w hgd s x t ho base e i size ht hi hsize g n cap xs hs hown ad m c news hx hl hnews h1 hroom
        (fun w' ho' hg' => h _ w' ho' hg' (fun g' hg'' => .inl hg''))
    · exact wpList_append_grows w hgd s x t ho e i z size bytes ht hi hz hsize hby hzs hsz _ n cap xs hs (by simp) hown.1
        (fun b hb j u hu => by
          obtain rfl : (⟨g, 0, none⟩ : Addr) = b := by simpa using hb
          exact hown.cells rfl j u hu) ad m c news hx hl hnews h1 (by omega) h63 hbytes
        (fun v' w' ho' hg' => h v' w' (ownsRow_lower ho' hbase) (wide w' _ hg') (fresh v' w' ho'))

/-- What a call leaves: all blocks but one box and one row are as they were. -/
structure Kept (w w' : World) (B : Nat) (row : Option Nat) : Prop where
  os : w'.os = w.os
  tape : w'.tape = w.tape
  output : w'.output = w.output
  size : w.heap.size ≤ w'.heap.size
  block : ∀ k, k < w.heap.size → k ≠ B → some k ≠ row → w'.heap[k]? = w.heap[k]?

/-- What varIndex leaves where the name is new. -/
structure Missed (w w' : World) (base B : Nat) (v : Value) (ss : List ByteArray) (s : ByteArray) : Prop where
  box : ∃ v', w'.heap[B]? = some (.cells #[v'] 35 (0, 0)) ∧ Own w' base v' (ss ++ [s]) ∧ (∀ g, v'.ownBlock = some g → v.ownBlock = some g ∨ w.heap.size ≤ g)
  kept : Kept w w' B v.ownBlock

theorem var29_hit (a : Option Addr) (len cap : Nat) (ss : List ByteArray) (s : ByteArray) (B : Nat) (w : World) (hl : ss.length = len) (hlen : len ≤ 1048576) (hr : SRow w a ss)
    (hB : w.heap[B]? = some (.cells #[.slice a len cap] 35 (0, 0))) (hs : s ∈ ss) :
    Calls Try.prog 29 #[.pointer (some ⟨B, 0, none⟩), .string s] w fun e w' => e = .returned (.int .i64 (Lib.idxOfS ss s)) ∧ w' = w := by
  have hc := cell_of_one hB
  have h0 : 0 ≤ Lib.idxOfS ss s := (Lib.idxOfS_nonneg_iff ss s).2 hs
  clear hB hs
  generalize hi : Lib.idxOfS ss s = ix at *
  have HI := hide hi
  clear hi
  go_enter Try.func29, Try.ntmps29
  go_wp2_with fail
  refine (index33 a len cap ss s _ hl (by unfold maxLen; omega) hr).mono ?_
  rintro e w' ⟨rfl, rfl⟩
  rw [unhide HI]
  go_wp2
  go_ret
  exact ⟨rfl, rfl⟩

theorem Below.of_kept {w w' : World} {B base : Nat} {row : Option Nat} (h : Kept w w' B row) (hB : base ≤ B) (hs : base ≤ w.heap.size) (hr : ∀ g, row = some g → base ≤ g) : Below base w w' :=
  ⟨h.os, h.tape, h.output, h.size, fun k hk => h.block k (by omega) (by omega) (fun e => by have := hr k e.symm; omega)⟩

/-- Behind the append and the store: what varIndex leaves. -/
theorem missed_of {w w1 : World} {base B len cap : Nat} {a : Option Addr} {v' : Value} {ss : List ByteArray} {s : ByteArray} (hl : ss.length = len) (hown : Own w base (.slice a len cap) ss) (hbase : base ≤ w.heap.size) (hBb : B < base)
    (hB : w.heap[B]? = some (.cells #[.slice a len cap] 35 (0, 0))) (o : Obj)
    (h1 : w1.ownsRow base 9 1 v' (len + 1) (ss.map Value.string ++ [.string s])) (h2 : (w.alloc o).grownBy w1 (Value.slice a len cap).ownBlock)
    (h3 : ∀ g, v'.ownBlock = some g → (Value.slice a len cap).ownBlock = some g ∨ w.heap.size + 1 ≤ g) :
    Missed w (w1.setCell ⟨B, 0, none⟩ v') base B (.slice a len cap) ss s := by
  have hBlt := lt_of_block hB
  have hrow : ∀ k, (Value.slice a len cap).ownBlock = some k → base ≤ k ∧ k < w.heap.size := hown.lt
  have hsz : (w.alloc o).heap.size = w.heap.size + 1 := by simp
  have hkb : ∀ k, k < w.heap.size → some k ≠ (Value.slice a len cap).ownBlock → w1.heap[k]? = w.heap[k]? := fun k hk hne => by
    rw [h2.block k (by omega) hne]
    exact heap_alloc_old w o hk
  have hB1 : w1.heap[B]? = some (.cells #[.slice a len cap] 35 (0, 0)) := by
    rw [hkb B hBlt (fun e => by have := hrow B e.symm; omega)]
    exact hB
  refine ⟨⟨v', one_setCell hB1, ?_, ?_⟩, ⟨h2.os, h2.tape, h2.output, ?_, ?_⟩⟩
  · unfold Own
    have e : (ss ++ [s]).map Value.string = ss.map Value.string ++ [.string s] := by simp
    rw [e, List.length_append, hl]
    exact ownsRow_setCell_below h1 (show B < base from hBb) _
  · intro g hg
    rcases h3 g hg with h | h
    · exact .inl h
    · exact .inr (by omega)
  · have := h2.size
    simp only [hsz] at this
    simp [World.setCell]
    omega
  · intro k hk hkB hne
    rw [Below.heap_setCell _ _ _ _ hkB]
    exact hkb k hk hne

theorem var29_miss (a : Option Addr) (len cap : Nat) (ss : List ByteArray) (s : ByteArray) (base B : Nat) (w : World) (hl : ss.length = len) (hlen : len ≤ 1048576) (hr : SRow w a ss)
    (hown : Own w base (.slice a len cap) ss) (hbase : base ≤ w.heap.size) (hBb : B < base)
    (hB : w.heap[B]? = some (.cells #[.slice a len cap] 35 (0, 0))) (hs : s ∉ ss) :
    Calls Try.prog 29 #[.pointer (some ⟨B, 0, none⟩), .string s] w fun e w' => e = .returned (.int .i64 len) ∧ Missed w w' base B (.slice a len cap) ss s := by
  obtain ⟨i0, hi, hz0, hz1, hz2⟩ := info_parts Try.info9
  have hc := cell_of_one hB
  have hf := free_of_one hB
  have h0 : Lib.idxOfS ss s = -1 := by
    have := Lib.idxOfS_miss ss len s (fun j hj e => hs (by rw [← e]; simp [show j < ss.length by omega]))
    rwa [← hl, List.take_length] at this
  have HI := hide h0
  have hown0 : w.ownsRow base 9 1 (.slice a len cap) len (ss.map Value.string) := by unfold Own at hown; rwa [hl] at hown
  have HB := hide hB
  clear h0 hs hB
  go_enter Try.func29, Try.ntmps29
  go_wp2_with fail
  refine (index33 a len cap ss s _ hl (by unfold maxLen; omega) hr).mono ?_
  rintro e w' ⟨rfl, hw⟩
  obtain rfl := hw.symm
  rw [unhide HI]
  go_wp2_with (at_builtin; refine wpList_append_own2 _ rfl _ _ 35 rfl base 9 i0 (.string ByteArray.empty) 1 16 Try.underlying35 hi hz0 hz1 hz2 rfl (by decide) _ _ _ rfl (hown0.alloc _) ⟨w.heap.size, 0, none⟩ 1 1 [.string s] rfl rfl (cell_one_new _ _ _) ?c2 (by unfold maxLen; omega) (by omega) (by simp; omega) ?_)
  case c2 => intro u hu; simp at hu; subst hu; rfl
  intro v' w1 hown1 hgrow hfresh
  have M := missed_of hl hown hbase hBb (unhide HB) _ hown1 hgrow hfresh
  have hB1 : w1.heap[B]? = some (.cells #[.slice a len cap] 35 (0, 0)) := by
    rw [hgrow.block B (by have := lt_of_block (unhide HB); simp; omega) (fun e => by have := hown0.lt B e.symm; omega)]
    rw [heap_alloc_old w _ (lt_of_block (unhide HB))]
    exact unhide HB
  obtain ⟨a', cap', hv⟩ : ∃ a' cap', v' = .slice a' (len + 1) cap' := by
    rcases hown1.2 with ⟨_, h⟩ | ⟨g, c, _, h, _⟩
    · omega
    · exact ⟨_, _, h⟩
  rw [hv] at M ⊢
  have hc1 := cell_of_one hB1
  have hf1 := free_of_one hB1
  have HM := hide M
  clear M hown1 hgrow hfresh hown0 hB1 hv
  go_wp2
  go_ret
  exact ⟨rfl, unhide HM⟩

theorem var18_hit (a : Option Addr) (len cap : Nat) (ss : List ByteArray) (s : ByteArray) (B : Nat) (w : World) (hl : ss.length = len) (hlen : len ≤ 1048576) (hr : SRow w a ss)
    (hB : w.heap[B]? = some (.cells #[.slice a len cap] 35 (0, 0))) (hs : s ∈ ss) :
    Calls Try.prog 18 #[.pointer (some ⟨B, 0, none⟩), .string s] w fun e w' => e = .returned (.int .i64 (Lib.idxOfS ss s)) ∧ w' = w := by
  have C := var29_hit a len cap ss s B w hl hlen hr hB hs
  generalize Lib.idxOfS ss s = ix at *
  have HC := hide C
  clear hl hlen hr hB hs C
  go_enter Try.func18, Try.ntmps18
  go_wp2_with fail
  refine (unhide HC).mono ?_
  rintro e w' ⟨rfl, hw⟩
  obtain rfl := hw.symm
  go_wp2
  go_ret
  exact ⟨rfl, rfl⟩

theorem var18_miss (a : Option Addr) (len cap : Nat) (ss : List ByteArray) (s : ByteArray) (base B : Nat) (w : World) (hl : ss.length = len) (hlen : len ≤ 1048576) (hr : SRow w a ss)
    (hown : Own w base (.slice a len cap) ss) (hbase : base ≤ w.heap.size) (hBb : B < base)
    (hB : w.heap[B]? = some (.cells #[.slice a len cap] 35 (0, 0))) (hs : s ∉ ss) :
    Calls Try.prog 18 #[.pointer (some ⟨B, 0, none⟩), .string s] w fun e w' => e = .returned (.int .i64 len) ∧ Missed w w' base B (.slice a len cap) ss s := by
  have C := var29_miss a len cap ss s base B w hl hlen hr hown hbase hBb hB hs
  have HC := hide C
  clear hl hlen hr hown hbase hBb hB hs C
  go_enter Try.func18, Try.ntmps18
  go_wp2_with fail
  refine (unhide HC).mono ?_
  rintro e w' ⟨rfl, hw⟩
  go_wp2
  go_ret
  exact ⟨rfl, hw⟩

end Go.Proofs.Qxb6003736a.Strs
