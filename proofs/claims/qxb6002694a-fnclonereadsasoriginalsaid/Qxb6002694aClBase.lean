/-
  What clone (26) holds between its steps; a row of holds as cells.
-/
import Derived.Test.Qxb6002694aTrBase
namespace Go.Proofs.Qxb6002694a
open Go Go.RowKit
set_option maxRecDepth 100000

/-- What clone holds between its steps. -/
structure CL (w wd : World) (zero cs : Array Value) : Prop where
  bx : wd.heap[w.heap.size]? = some (.cells cs 35 (0, 0))
  rs : wd.heap[w.heap.size + 1]? = some (.cells zero 35 (0, 0))
  b : Below w.heap.size w wd

theorem CL.lt {w wd : World} {zero cs : Array Value} (h : CL w wd zero cs) : w.heap.size + 1 < wd.heap.size := (Array.getElem?_eq_some_iff.1 h.rs).1
theorem CL.below {w wd w2 : World} {zero cs : Array Value} (h : CL w wd zero cs) (hB : Below wd.heap.size wd w2) : CL w w2 zero cs := by
  have h1 := h.lt
  exact ⟨(hB.block _ (by omega)).trans h.bx, (hB.block _ (by omega)).trans h.rs, h.b.trans (hB.mono h.b.size)⟩
theorem CL.set {w wd : World} {zero cs : Array Value} (h : CL w wd zero cs) (i : Nat) (v : Value) : CL w (wd.setCell ⟨w.heap.size, i, none⟩ v) zero (cs.setIfInBounds i v) :=
  ⟨block_setCell h.bx i v, (Below.heap_setCell _ _ _ _ (by simp)).trans h.rs, h.b.setCell (by simp) _⟩

/-- A row of holds, as cells. -/
def rcs : List HoldD → List Value
  | [] => []
  | h :: t => .string h.1 :: .int .u64 h.2.1 :: .int .u64 h.2.2 :: rcs t

theorem rcs_length : ∀ rd, (rcs rd).length = rd.length * 3
  | [] => rfl
  | _ :: t => by simp [rcs, rcs_length t]; omega
theorem rcs_one : ∀ rd, ∀ u ∈ rcs rd, u.oneCell' = true
  | [], _, h => by cases h
  | _ :: t, u, h => by
    simp only [rcs, List.mem_cons] at h
    rcases h with rfl | rfl | rfl | h
    · rfl
    · rfl
    · rfl
    · exact rcs_one t u h
theorem rcs_cells (w : World) (b : Nat) : ∀ (rd : List HoldD) (o : Nat), (∀ j (h : j < rd.length), HoldA w b (o + j * 3) rd[j]) → ∀ j u, (rcs rd)[j]? = some u → w.cell? ⟨b, o + j, none⟩ = some u
  | [], _, _, j, u, h => by simp [rcs] at h
  | x :: t, o, H, j, u, h => by
    have H0 := H 0 (by simp)
    match j with
    | 0 => simp [rcs] at h; subst h; simpa using H0.1
    | 1 => simp [rcs] at h; subst h; simpa using H0.2.1
    | 2 => simp [rcs] at h; subst h; simpa using H0.2.2
    | j + 3 =>
      have := rcs_cells w b t (o + 3) (fun q hq => by
        have := H (q + 1) (by simpa using hq)
        rw [show o + 3 + q * 3 = o + (q + 1) * 3 by omega]
        simpa using this) j u (by simpa [rcs] using h)
      rw [show o + (j + 3) = o + 3 + j by omega]
      exact this
theorem rcs_get : ∀ (rd : List HoldD) (q : Nat) (h : q < rd.length), (rcs rd)[q * 3]? = some (.string rd[q].1) ∧ (rcs rd)[q * 3 + 1]? = some (.int .u64 rd[q].2.1) ∧ (rcs rd)[q * 3 + 2]? = some (.int .u64 rd[q].2.2)
  | [], q, h => by simp at h
  | x :: t, 0, _ => by simp [rcs]
  | x :: t, q + 1, h => by
    have := rcs_get t q (by simpa using h)
    rw [show (q + 1) * 3 = q * 3 + 3 by omega, show q * 3 + 3 + 1 = q * 3 + 1 + 3 by omega, show q * 3 + 3 + 2 = q * 3 + 2 + 3 by omega]
    simpa [rcs] using this

/-- The readers, as an append's source. -/
theorem rds_src {w : World} {ra : Option Addr} {rd : List HoldD} {rn rc : Nat} (h : Rds w ra rd) (hn : rd.length = rn) : Src Try.prog 3 31 (.slice ra rn rc) rn (rcs rd) w := by
  rcases h with rfl | ⟨b, o, rfl, H⟩
  · subst hn
    cases ra with
    | none => exact Src.ofNil w Try.underlying31 rc
    | some a => exact Src.ofSlice w Try.underlying31 a 0 rc [] (by simp) (by simp) (by simp)
  · subst hn
    exact Src.ofSlice w Try.underlying31 ⟨b, o, none⟩ _ rc _ (rcs_length rd) (fun j u hu => by rw [Addr.add_lit]; exact rcs_cells w b rd o H j u hu) (rcs_one rd)

/-- What owns the row's cells leads to the readers. -/
theorem rds_of_own {w : World} {B n : Nat} {v : Value} {rd : List HoldD} (h : w.ownsRow B 42 3 v n (rcs rd)) : ∃ ra c, v = .slice ra n c ∧ Rds w ra rd ∧ (∀ a, ra = some a → B ≤ a.block ∧ a.block < w.heap.size) := by
  have h' := h
  rcases h.2 with ⟨rfl, rfl⟩ | ⟨g, cap, cur, rfl, hb, hg, _⟩
  · refine ⟨none, 0, rfl, Or.inl ?_, (fun a e => by cases e)⟩
    have := h.1
    rw [rcs_length] at this
    exact List.eq_nil_of_length_eq_zero (by omega)
  · refine ⟨_, _, rfl, Or.inr ⟨g, 0, rfl, fun q hq => ?_⟩, fun a e => ?_⟩
    · obtain ⟨e0, e1, e2⟩ := rcs_get rd q hq
      have hl := h.1
      rw [rcs_length] at hl
      rw [Nat.zero_add]
      exact ⟨(h'.cellAt _ (by omega)).trans e0, (h'.cellAt _ (by omega)).trans e1, (h'.cellAt _ (by omega)).trans e2⟩
    · cases e
      exact ⟨hb, (Array.getElem?_eq_some_iff.1 hg).1⟩

/-- append onto nil of nothing. -/
theorem wpList_append_none {P : Program} (w : World) {ops : Array Oper} {rest : List Oper} {o : Oper} {a : Act} {Q : Exit → Act → World → Prop} (hgd : o.guard = none) (s y : Operand) (t tx : TypeId)
    (ho : o.op = .call { callee := .builtin .append, args := #[s, y], argTypes := #[t, tx] })
    (e : TypeId) (z : Value) (size bytes : Nat) (ht : P.underlying t = some (.slice e)) (hinf : (P.info? e).map (fun i => (i.zero, i.size, i.bytes)) = some (some z, size, bytes))
    (hv : a.eval s = .slice none 0 0) (x : Value) (hx : a.eval y = x) (hs : Src P size tx x 0 [] w)
    (h : wpList P ops Q rest (a.put o.dst (.slice none 0 0)) w) : wpList P ops Q (o :: rest) a w := by
  obtain ⟨i, hi, hz, hsize, hby⟩ := info_parts hinf
  subst hsize
  have hr := run_append_nothing (P := P) w t tx o.type e i ht hi none 0 0 (Nat.le_refl _) x hs
  refine wpList_plain hgd fun K hK => ?_
  unfold Oper.wp execOp
  simp only [ho, resolve, invoke, builtin, Sem.run_bind, Sem.run_pure, Result.andThen_ok, List.map_toArray, List.map_cons, List.map_nil, hv, hx, hr]
  exact hK _ _ h
/-- append onto nil of readers. -/
theorem wpList_append_rds (w : World) {ops : Array Oper} {rest : List Oper} {o : Oper} {a : Act} {Q : Exit → Act → World → Prop} (hgd : o.guard = none) (s y : Operand)
    (ho : o.op = .call { callee := .builtin .append, args := #[s, y], argTypes := #[31, 31] }) (hv : a.eval s = .slice none 0 0) (ra : Option Addr) (rn rc : Nat) (rd : List HoldD) (hx : a.eval y = .slice ra rn rc)
    (hr : Rds w ra rd) (hn : rd.length = rn) (hm : (rn : Int) ≤ 65536)
    (h : ∀ ra' c' w', Rds w' ra' rd → (rn = 0 → ra' = none) → Below w.heap.size w w' → (∀ a, ra' = some a → w.heap.size ≤ a.block ∧ a.block < w'.heap.size) → wpList Try.prog ops Q rest (a.put o.dst (.slice ra' rn c')) w') : wpList Try.prog ops Q (o :: rest) a w := by
  have hs := rds_src (rc := rc) hr hn
  by_cases h0 : rn = 0
  · subst h0
    obtain rfl := List.eq_nil_of_length_eq_zero hn
    exact wpList_append_none w hgd s y 31 31 ho 42 _ 3 32 Try.underlying31 Try.info42 hv _ hx hs (h none 0 w (Or.inl rfl) (fun _ => rfl) (Below.refl _ _) (fun a e => by cases e))
  · refine wpList_append_src w hgd s y 31 31 ho w.heap.size 42 _ 3 32 Try.underlying31 Try.info42 rfl _ 0 [] hv (World.ownsRow_nil w w.heap.size 42 3) _ rn (rcs rd) hx hs (by unfold maxLen; omega) (by omega) (Nat.le_refl _) ?_
    intro v' w' hown hg _ _
    rw [Nat.zero_add, List.nil_append] at hown
    obtain ⟨ra', c', rfl, hR, hF⟩ := rds_of_own hown
    exact h ra' c' w' hR (fun e => absurd e h0) ((Below.refl _ _).grown hg (Nat.le_refl _) (fun k hk => by cases hk)) hF
theorem putL {w : World} {b t : Nat} {cs cs2 : Array Value} (h : w.heap[b]? = some (.cells cs t (0, 0))) (i : Nat) (v : Value) (hc : cs.setIfInBounds i v = cs2) : (w.setCell ⟨b, i, none⟩ v).heap[b]? = some (.cells cs2 t (0, 0)) := by
  rw [← hc]; exact block_setCell h i v
/-- Thirteen cells stored. -/
theorem put13 {w : World} {b t : Nat} {z0 z1 z2 z3 z4 z5 z6 z7 z8 z9 z10 z11 z12 : Value} (h : w.heap[b]? = some (.cells #[z0, z1, z2, z3, z4, z5, z6, z7, z8, z9, z10, z11, z12] t (0, 0))) (v0 v1 v2 v3 v4 v5 v6 v7 v8 v9 v10 v11 v12 : Value) :
    Same w (((((((((((((w.setCell ⟨b, 0, none⟩ v0).setCell ⟨b, 1, none⟩ v1).setCell ⟨b, 2, none⟩ v2).setCell ⟨b, 3, none⟩ v3).setCell ⟨b, 4, none⟩ v4).setCell ⟨b, 5, none⟩ v5).setCell ⟨b, 6, none⟩ v6).setCell ⟨b, 7, none⟩ v7).setCell ⟨b, 8, none⟩ v8).setCell ⟨b, 9, none⟩ v9).setCell ⟨b, 10, none⟩ v10).setCell ⟨b, 11, none⟩ v11).setCell ⟨b, 12, none⟩ v12) b ∧ (((((((((((((w.setCell ⟨b, 0, none⟩ v0).setCell ⟨b, 1, none⟩ v1).setCell ⟨b, 2, none⟩ v2).setCell ⟨b, 3, none⟩ v3).setCell ⟨b, 4, none⟩ v4).setCell ⟨b, 5, none⟩ v5).setCell ⟨b, 6, none⟩ v6).setCell ⟨b, 7, none⟩ v7).setCell ⟨b, 8, none⟩ v8).setCell ⟨b, 9, none⟩ v9).setCell ⟨b, 10, none⟩ v10).setCell ⟨b, 11, none⟩ v11).setCell ⟨b, 12, none⟩ v12).heap[b]? = some (.cells #[v0, v1, v2, v3, v4, v5, v6, v7, v8, v9, v10, v11, v12] t (0, 0)) :=
  ⟨((((((((((((((Same.refl _ _).set 0 _).set 1 _).set 2 _).set 3 _).set 4 _).set 5 _).set 6 _).set 7 _).set 8 _).set 9 _).set 10 _).set 11 _).set 12 _), (putL (cs2 := #[v0, v1, v2, v3, v4, v5, v6, v7, v8, v9, v10, v11, v12]) (putL (cs2 := #[v0, v1, v2, v3, v4, v5, v6, v7, v8, v9, v10, v11, z12]) (putL (cs2 := #[v0, v1, v2, v3, v4, v5, v6, v7, v8, v9, v10, z11, z12]) (putL (cs2 := #[v0, v1, v2, v3, v4, v5, v6, v7, v8, v9, z10, z11, z12]) (putL (cs2 := #[v0, v1, v2, v3, v4, v5, v6, v7, v8, z9, z10, z11, z12]) (putL (cs2 := #[v0, v1, v2, v3, v4, v5, v6, v7, z8, z9, z10, z11, z12]) (putL (cs2 := #[v0, v1, v2, v3, v4, v5, v6, z7, z8, z9, z10, z11, z12]) (putL (cs2 := #[v0, v1, v2, v3, v4, v5, z6, z7, z8, z9, z10, z11, z12]) (putL (cs2 := #[v0, v1, v2, v3, v4, z5, z6, z7, z8, z9, z10, z11, z12]) (putL (cs2 := #[v0, v1, v2, v3, z4, z5, z6, z7, z8, z9, z10, z11, z12]) (putL (cs2 := #[v0, v1, v2, z3, z4, z5, z6, z7, z8, z9, z10, z11, z12]) (putL (cs2 := #[v0, v1, z2, z3, z4, z5, z6, z7, z8, z9, z10, z11, z12]) (putL (cs2 := #[v0, z1, z2, z3, z4, z5, z6, z7, z8, z9, z10, z11, z12]) h 0 v0 (by simp)) 1 v1 (by simp)) 2 v2 (by simp)) 3 v3 (by simp)) 4 v4 (by simp)) 5 v5 (by simp)) 6 v6 (by simp)) 7 v7 (by simp)) 8 v8 (by simp)) 9 v9 (by simp)) 10 v10 (by simp)) 11 v11 (by simp)) 12 v12 (by simp))⟩
end Go.Proofs.Qxb6002694a
