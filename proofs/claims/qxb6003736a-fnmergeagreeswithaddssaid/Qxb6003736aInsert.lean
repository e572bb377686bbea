/- slices.Insert over diagnostics (seat b6003736a). -/
import Derived.Test.Qxb6003736aApp
import Derived.Deep.RegionLaw
namespace Go.Proofs.Qxb6003736a.Diag
open Go.RowKit
set_option linter.unusedVariables false

theorem wpList_append_run {P : Program} (w : World) {ops : Array Oper} {rest : List Oper} {o : Oper} {a : Act} {Q : Exit → Act → World → Prop} (hg : o.guard = none) (s x : Operand) (t t2 : TypeId)
    (hop : o.op = Op.call { callee := Callee.builtin Builtin.append, args := #[s, x], argTypes := #[t, t2] }) (vs vx v' : Value) (w' : World) (hs : a.eval s = vs) (hx : a.eval x = vx)
    (hrun : ∀ ty, (Builtin.append_ #[t, t2] ty #[vs, vx]).run P w = .ok v' w') (hK : wpList P ops Q rest (a.put o.dst v') w') : wpList P ops Q (o :: rest) a w := by
  refine wpList_plain hg fun K hK' => ?_
  unfold Oper.wp
  simp [execOp, hop, resolve, invoke, builtin, hs, hx, hrun, Result.andThen]
  exact hK' _ _ hK
theorem wpList_copy_run {P : Program} (w : World) {ops : Array Oper} {rest : List Oper} {o : Oper} {a : Act} {Q : Exit → Act → World → Prop} (hg : o.guard = none) (s x : Operand) (t t2 : TypeId)
    (hop : o.op = Op.call { callee := Callee.builtin Builtin.copy, args := #[s, x], argTypes := #[t, t2] }) (vs vx v' : Value) (w' : World) (hs : a.eval s = vs) (hx : a.eval x = vx)
    (hrun : ∀ ty, (Builtin.copy_ #[t, t2] ty #[vs, vx]).run P w = .ok v' w') (hK : wpList P ops Q rest (a.put o.dst v') w') : wpList P ops Q (o :: rest) a w := by
  refine wpList_plain hg fun K hK' => ?_
  unfold Oper.wp
  simp [execOp, hop, resolve, invoke, builtin, hs, hx, hrun, Result.andThen]
  exact hK' _ _ hK
theorem step_copy_run {P : Program} {ops : Array Oper} {o : Oper} {a : Act} {w : World} {K : Act → World → Prop} {Q : Exit → Act → World → Prop} {E : Prop} (hg : o.guard = none) (s x : Operand) (t t2 : TypeId)
    (hop : o.op = Op.call { callee := Callee.builtin Builtin.copy, args := #[s, x], argTypes := #[t, t2] }) (vs vx v' : Value) (w' : World) (hs : a.eval s = vs) (hx : a.eval x = vx)
    (hrun : ∀ ty, (Builtin.copy_ #[t, t2] ty #[vs, vx]).run P w = .ok v' w') (hK : K (a.put o.dst v') w') : if Region.wanted o (yielded ops a.tmps) = true then Oper.wp P o a w K Q else E := by
  have hw : Region.wanted o (yielded ops a.tmps) = true := by simp [Region.wanted, hg]
  rw [if_pos hw]
  unfold Oper.wp
  simp [execOp, hop, resolve, invoke, builtin, hs, hx, hrun, Result.andThen]
  exact hK

/-- A slice of diagnostics at the head of its own row. -/
def SL (w : World) (v : Value) (ds : List D) : Prop :=
  (v = .slice none 0 0 ∧ ds = []) ∨ ∃ b cap J, v = .slice (some ⟨b, 0, none⟩) ds.length cap ∧ Rw w b (ds ++ J) ∧ ds.length + J.length = cap ∧ cap ≤ maxLen

/-- What Insert leaves. -/
def Inserted (w w' : World) (own : Option Nat) (xs : List D) (e : Ending) : Prop :=
  ∃ b cap J, e = .returned (.slice (some ⟨b, 0, none⟩) xs.length cap) ∧ Rw w' b (xs ++ J) ∧ xs.length + J.length = cap ∧ cap ≤ maxLen ∧ w.grownBy w' own ∧ (own = some b ∨ w.heap.size ≤ b)

theorem grown_of_none' {w w' : World} {r : Option Nat} (h : w.grownBy w' none) : w.grownBy w' r := ⟨h.os, h.tape, h.output, h.size, fun k hk _ => h.block k hk (by simp)⟩

set_option maxRecDepth 100000 in
set_option maxHeartbeats 4000000 in
theorem ins24nil (d : D) (bv : Nat) (w : World) (hv : Rw w bv [d]) :
    Calls Try.prog 24 #[.slice none 0 0, .int .i64 0, .slice (some ⟨bv, 0, none⟩) 1 1] w fun e w' => Inserted w w' none [d] e := by
  obtain ⟨cap, w', hrun, h1, h2, h3, h4⟩ := app_nil w bv 1 d hv
  have HF : Hid (∀ e, e = .returned (.slice (some ⟨w.heap.size, 0, none⟩) 1 cap) → Inserted w w' none [d] e) := fun e he => ⟨w.heap.size, cap, _, he, h3, by simp; omega, h2, h4, .inr (Nat.le_refl _)⟩
  clear h1 h2 h3 h4 hv
  have HRUN := hide hrun
  clear hrun
  go_enter Try.func24, Try.ntmps24
  go_wp2_with (at_builtin; refine wpList_append_run _ rfl _ _ 26 26 rfl _ _ _ _ rfl rfl (unhide HRUN) ?_)
  go_wp2
  go_ret
  exact unhide HF _ rfl

set_option maxRecDepth 100000 in
set_option maxHeartbeats 4000000 in
theorem ins24end (d : D) (ds J : List D) (b n cap bv : Nat) (w : World) (hn : ds.length = n) (hnb : n ≤ 1048576) (hR : Rw w b (ds ++ J)) (hc : n + J.length = cap) (hcm : cap ≤ maxLen) (hv : Rw w bv [d]) :
    Calls Try.prog 24 #[.slice (some ⟨b, 0, none⟩) n cap, .int .i64 n, .slice (some ⟨bv, 0, none⟩) 1 1] w fun e w' => Inserted w w' (some b) (ds ++ [d]) e := by
  have hncap : n ≤ cap := by omega
  cases J with
  | nil =>
    obtain rfl : n = cap := by simpa using hc
    obtain ⟨cap', w', hrun, h1, h2, h3, h4⟩ := app_grow w b n n bv 1 ds [] d hn hnb hR hv (by omega)
    have HF : Hid (∀ e, e = .returned (.slice (some ⟨w.heap.size, 0, none⟩) (n + 1) cap') → Inserted w w' (some b) (ds ++ [d]) e) := fun e he => ⟨w.heap.size, cap', _, by rw [he]; simp [hn], h3, by simp; omega, h2, grown_of_none' h4, .inr (Nat.le_refl _)⟩
    clear h1 h2 h3 h4 hv hR hn hc hcm
    have HRUN := hide hrun
    clear hrun
    go_enter Try.func24, Try.ntmps24
    go_wp2_with (at_builtin; refine wpList_append_run _ rfl _ _ 26 26 rfl _ _ _ _ rfl rfl (unhide HRUN) ?_)
    go_wp2
    go_ret
    exact unhide HF _ rfl
  | cons x J =>
    have hne : ¬ cap = n := by simp at hc; omega
    have hrun := app_room w b n cap bv 1 ds J x d hn hR hv (by simp at hc; omega)
    have HF : Hid (∀ e, e = .returned (.slice (some ⟨b, 0, none⟩) (n + 1) cap) → Inserted w (w.setRow b (enc (ds ++ d :: J)).toArray) (some b) (ds ++ [d]) e) := fun e he => ⟨b, cap, J, by rw [he]; simp [hn], by have := hR.setRow (ds ++ d :: J); simpa using this, by simp at hc ⊢; omega, hcm, setRow_grown _ _ _, .inl rfl⟩
    generalize w.setRow b (enc (ds ++ d :: J)).toArray = w' at *
    clear hv hR hn hc hcm
    have HRUN := hide hrun
    clear hrun
    go_enter Try.func24, Try.ntmps24
    go_wp2_with (at_builtin; refine wpList_append_run _ rfl _ _ 26 26 rfl _ _ _ _ rfl rfl (unhide HRUN) ?_)
    go_wp2
    go_ret
    exact unhide HF _ rfl

set_option maxRecDepth 100000 in
set_option maxHeartbeats 4000000 in
theorem ins24grow (d : D) (A C : List D) (b i n bv : Nat) (w : World) (hi : A.length = i) (hn : A.length + C.length = n) (hin : i < n) (hnb : n ≤ 1048576) (hR : Rw w b (A ++ C)) (hv : Rw w bv [d]) :
    Calls Try.prog 24 #[.slice (some ⟨b, 0, none⟩) n n, .int .i64 i, .slice (some ⟨bv, 0, none⟩) 1 1] w fun e w' => Inserted w w' (some b) (A ++ d :: C) e := by
  obtain ⟨cap', w', hrun, h1, h2, h3, h4⟩ := app_zeros w b i n n A C [] hi hn hin hnb (by simpa using hR) (by omega)
  have HRUN := hide hrun
  have hbl := hR.lt
  have hvl := hv.lt
  have hv1 := hv.grown h4
  have hR1 := hR.grown h4
  have hc1 := copy_row w' w.heap.size i (n + 1 - i) (cap' - i) bv 0 1 1 _ [d] [d] h3 hv1 (by show 1 = min 1 (n + 1 - i); omega) (by simp) (by simp; omega)
  have hl1 : laid (A ++ List.replicate (cap' - i) D.no) i [d] = A ++ d :: List.replicate (cap' - i - 1) D.no := by
    subst hi
    simp [laid, List.drop_append]
  rw [hl1] at hc1
  simp only [Nat.zero_mul] at hc1
  have h5 := h3.setRow (A ++ d :: List.replicate (cap' - i - 1) D.no)
  have g5 := setRow_grown w' w.heap.size (enc (A ++ d :: List.replicate (cap' - i - 1) D.no)).toArray
  have hR5 : Rw (w'.setRow w.heap.size (enc (A ++ d :: List.replicate (cap' - i - 1) D.no)).toArray) b (A ++ C) := hR1.same (g5.block b hR1.lt (by simp; omega))
  generalize w'.setRow w.heap.size (enc (A ++ d :: List.replicate (cap' - i - 1) D.no)).toArray = w5 at *
  have hC : C.length = n - i := by omega
  have hc2 := copy_row w5.drew w.heap.size (i + 1) (n + 1 - (i + 1)) (cap' - (i + 1)) b i (n - i) (n - i) _ _ C h5.drew hR5.drew (by rw [hC]; show n - i = min (n - i) (n + 1 - (i + 1)); omega) (by subst hi; simp) (by simp; omega)
  have hl2 : laid (A ++ d :: List.replicate (cap' - i - 1) D.no) (i + 1) C = A ++ d :: C ++ List.replicate (cap' - (n + 1)) D.no := by
    subst hi
    rw [show A ++ d :: List.replicate (cap' - A.length - 1) D.no = (A ++ [d]) ++ List.replicate (cap' - A.length - 1) D.no by simp]
    have e1 : ((A ++ [d]) ++ List.replicate (cap' - A.length - 1) D.no).take (A.length + 1) = A ++ [d] := by rw [show A.length + 1 = (A ++ [d]).length by simp]; exact List.take_left
    have e2 : ((A ++ [d]) ++ List.replicate (cap' - A.length - 1) D.no).drop (A.length + 1 + C.length) = List.replicate (cap' - (n + 1)) D.no := by
      rw [show A.length + 1 + C.length = (A ++ [d]).length + C.length by simp, List.drop_length_add_append, List.drop_replicate]
      congr 1
      omega
    rw [laid, e1, e2]
    simp
  rw [hl2] at hc2
  have h6 := h5.drew.setRow (A ++ d :: C ++ List.replicate (cap' - (n + 1)) D.no)
  have g6 := setRow_grown w5.drew w.heap.size (enc (A ++ d :: C ++ List.replicate (cap' - (n + 1)) D.no)).toArray
  generalize w5.drew.setRow w.heap.size (enc (A ++ d :: C ++ List.replicate (cap' - (n + 1)) D.no)).toArray = w6 at *
  have HF : Hid (∀ e, e = .returned (.slice (some ⟨w.heap.size, 0, none⟩) (n + 1) cap') → Inserted w w6 (some b) (A ++ d :: C) e) := fun e he => by
    refine ⟨w.heap.size, cap', _, by rw [he]; simp; omega, h6, by simp; omega, h2, ?_, .inr (Nat.le_refl _)⟩
    refine ⟨g6.os.trans (g5.os.trans h4.os), g6.tape.trans (g5.tape.trans h4.tape), g6.output.trans (g5.output.trans h4.output), Nat.le_trans h4.size (Nat.le_trans g5.size g6.size), fun q hq hqb => ?_⟩
    rw [g6.block q (Nat.lt_of_lt_of_le hq (Nat.le_trans h4.size g5.size)) (by simp; omega)]
    exact (g5.block q (Nat.lt_of_lt_of_le hq h4.size) (by simp; omega)).trans (h4.block q hq (by simp))
  have HC2 := hide hc2
  have x1 : ¬ cap' = i := by omega
  have x2 : ¬ cap' = i + 1 := by omega
  have x3 : ¬ n = i := by omega
  have x4 : i + 1 ≤ n + 1 := by omega
  have x5 : cap' ≤ 9223372036854775807 := by unfold maxLen at h2; omega
  clear hrun hc2 h1 h2 h3 h4 h5 h6 g5 g6 hR hR1 hR5 hv hv1 hl1 hl2 hC hbl hvl hi hn
  generalize w.heap.size = g at *
  go_enter Try.func24, Try.ntmps24
  go_wp2_with (at_builtin; refine wpList_append_run _ rfl _ _ 26 3 rfl _ _ _ _ rfl rfl (unhide HRUN) ?_)
  have y1 : IntKind.i64.wrap ((i : Int) + 1) = (i : Int) + 1 := by rw [IntKind.wrap_i64]; omega
  have y2 : ((i : Int) + 1).toNat = i + 1 := by omega
  have y3 : (0 : Int) ≤ (i : Int) + 1 := by omega
  have y4 : (i : Int) + 1 ≤ (n : Int) + 1 := by omega
  have y5 : (i : Int) ≤ (n : Int) := by omega
  go_region_law (refine step_copy_run rfl (.tmp 50) (.tmp 53) 26 26 rfl _ _ _ _ (by simp [Act.eval, Act.put]) (by simp [Act.eval, Act.put]) (unhide HC2) ?_)

  go_wp2
  go_ret
  exact unhide HF _ rfl

end Go.Proofs.Qxb6003736a.Diag
