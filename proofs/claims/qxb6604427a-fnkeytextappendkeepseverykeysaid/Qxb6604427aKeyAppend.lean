/-
  append onto a slice of bytes that is full: a new array.
-/
import Derived.Test.Qxb6604427aKeyMake
namespace Go.Proofs.Qxb6604427a
open Go Go.RowKit
set_option maxRecDepth 100000

theorem first_holds {w : World} {ao : Option Addr} {t : List Nat} {c : Nat} (h : Holds w (.slice ao t.length c) t) (hc : c = t.length) : (Builtin.firstCells 1 t.length (.slice ao t.length c)).run Try.prog w.drew = .ok (bc t).toArray w.drew := by
  subst hc
  cases ao with
  | none =>
    rcases h with ⟨rfl, _⟩ | ⟨g, o, c, hv, _⟩
    · exact run_firstCells_none w.drew 1 0 0 0
    · simp at hv
  | some a =>
    refine run_firstCells_some w.drew 1 t.length a t.length t.length (bc t) (by simp [bc]) (fun j u hu => ?_)
    rcases h with ⟨rfl, _⟩ | ⟨g, o, c, hv, hI⟩
    · simp [bc] at hu
    · simp only [Value.slice.injEq, Option.some.injEq] at hv
      obtain ⟨rfl, _, _⟩ := hv
      have hj : j < t.length := by
        have := (List.getElem?_eq_some_iff.1 hu).1
        simpa [bc] using this
      simp [bc, hj] at hu
      rw [Addr.add_mid, ← hu]
      exact hI j hj

theorem wpList_append_full {ops : Array Oper} {rest : List Oper} {o : Oper} {a : Act} {Q : Exit → Act → World → Prop} (w : World) (hgd : o.guard = none) (s y : Operand)
    (ho : o.op = .call { callee := .builtin .append, args := #[s, y], argTypes := #[29, 29] })
    (ao : Option Addr) (t : List Nat) (n : Nat) (hn : t.length = n) (hv : a.eval s = .slice ao n n) (hH : Holds w (.slice ao n n) t)
    (x : Value) (m : Nat) (news : List Value) (hx : a.eval y = x) (hs : Src Try.prog 1 29 x m news w) (hm : 0 < m) (h63 : n + m ≤ 1073741824)
    (h : ∀ v' w', w'.ownsRow 0 5 1 v' (n + m) (bc t ++ news) → w.grownBy w' none → v'.ownBlock = some w.heap.size → wpList Try.prog ops Q rest (a.put o.dst v') w') : wpList Try.prog ops Q (o :: rest) a w := by
  subst hn
  obtain ⟨i, hi, hz, hsize, hby⟩ := info_parts Try.info5
  have hl := hs.newsLen
  have hold := first_holds hH rfl
  rw [← hsize] at hold hs
  have hr := run_append_grow_src (P := Try.prog) w 29 29 o.type 5 i (.int .u8 0) Try.underlying29 hi hz ao t.length t.length (bc t) hold x m news hs (by omega) (by omega) (growslice_fits (by omega) (by rw [hby]; omega))
  refine wpList_plain hgd fun K hK => ?_
  unfold Oper.wp execOp
  simp only [ho, resolve, invoke, builtin, Sem.run_bind, Sem.run_pure, Result.andThen_ok, List.map_toArray, List.map_cons, List.map_nil, hv, hx, hr]
  refine hK _ _ (h _ _ ?_ ?_ rfl)
  · have hge := grownCap_ge w (t.length + m) t.length 5
    have hcm : grownCap w (t.length + m) t.length 5 ≤ maxLen := grownCap_le_maxLen w (t.length + m) t.length 5 (by unfold maxLen; omega)
    have hlen : (bc t ++ news).length = (t.length + m) * 1 := by rw [List.length_append, hl]; simp [bc]
    refine ⟨hlen, .inr ⟨w.heap.size, _, _, rfl, Nat.zero_le _, heap_alloc_new w.drew _, hge, hcm, ?_, ?_⟩⟩
    · simp only [Array.size_append, List.size_toArray, size_zeroCells, hlen]
      simp [Value.cells]
      omega
    · rw [Array.toList_append, ← hlen]
      exact List.take_left
  · exact ⟨rfl, rfl, rfl, by simp, fun k hk _ => Below.heap_alloc w.drew _ k hk⟩

theorem own_some {w : World} {B e sz n k : Nat} {v : Value} {xs : List Value} (h : w.ownsRow B e sz v n xs) (hk : v.ownBlock = some k) : ∃ c, v = .slice (some ⟨k, 0, none⟩) n c := by
  rcases h.2 with ⟨rfl, rfl⟩ | ⟨g, cap, _, rfl, _⟩
  · cases hk
  · cases hk; exact ⟨_, rfl⟩
end Go.Proofs.Qxb6604427a
