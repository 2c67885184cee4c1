/-
  (*Decoder).Reset (8) on a new Decoder, and zzDecoderWithIndent (6).
-/
import Derived.Test.Qxb6604427aDoorResetW
namespace Go.Proofs.Qxb6604427aDoor
open Go.RowKit
set_option maxRecDepth 100000
attribute [local go_sem ↓] Go.wp_at_zero Go.wp_at_succ

theorem hide {p : Prop} (h : p) : Hid p := h
theorem unhide {p : Prop} (h : Hid p) : p := h
theorem Inv.re {w0 : World} {b : Nat} {v17 v18 : Value} {w : World} (h : Inv w0 b v17 v18 w) : Inv w b v17 v18 w :=
  ⟨Below.refl _ _, fun _ _ _ => rfl, h.there, h.c12, h.c17, h.c18, h.c30, h.c35, h.c76, h.c77⟩

theorem Inv.trans {w0 W w2 : World} {b : Nat} {u u' v v' : Value} (h : Inv w0 b u u' W) (k : Inv W b v v' w2) : Inv w0 b v v' w2 :=
  ⟨h.below.trans k.below, fun i h1 h2 => (k.other i (Nat.lt_of_lt_of_le h1 h.below.size) h2).trans (h.other i h1 h2), k.there, k.c12, k.c17, k.c18, k.c30, k.c35, k.c76, k.c77⟩

def S8 (b bo : Nat) (ind : Int) (T : Nat) (a : Option Addr) (W : World) : Prop := W.cell? ⟨bo, 0, none⟩ = some (.int .i64 ind) ∧ W.cell? ⟨bo, 1, none⟩ = some (.bool false) ∧ W.cell? ⟨bo, 2, none⟩ = some (.int .i64 0) ∧ W.cell? ⟨b, 12, none⟩ = some (.slice none 0 0) ∧ W.cell? ⟨0, 0, none⟩ = some (.iface T (.pointer a))
theorem S8_drew {b bo : Nat} {ind : Int} {T : Nat} {a : Option Addr} {W : World} (h : S8 b bo ind T a W) : S8 b bo ind T a W.drew := h
theorem cell_alloc {W : World} {p : Addr} {v : Value} (h : W.cell? p = some v) (o : Obj) : (W.alloc o).cell? p = some v := by
  rw [World.cell?_alloc_lt _ _ _ (World.block_lt_of_cell? W _ h)]; exact h
theorem S8_alloc {b bo : Nat} {ind : Int} {T : Nat} {a : Option Addr} {W : World} (o : Obj) (h : S8 b bo ind T a W) : S8 b bo ind T a (W.alloc o) :=
  ⟨cell_alloc h.1 o, cell_alloc h.2.1 o, cell_alloc h.2.2.1 o, cell_alloc h.2.2.2.1 o, cell_alloc h.2.2.2.2 o⟩
theorem cell_inv {W w2 : World} {b : Nat} {v v' : Value} (h : Inv W b v v' w2) {p : Addr} {u : Value} (hp : p.block ≠ b) (hu : W.cell? p = some u) : w2.cell? p = some u :=
  (World.cell?_of_block (h.other p.block (World.block_lt_of_cell? W _ hu) hp)).trans hu
theorem S8_inv {b bo : Nat} {ind : Int} {T : Nat} {a : Option Addr} {W w2 : World} {v v' : Value} (h1 : bo ≠ b) (h2 : 0 ≠ b) (hI : Inv W b v v' w2) (h : S8 b bo ind T a W) : S8 b bo ind T a w2 :=
  ⟨cell_inv hI h1 h.1, cell_inv hI h1 h.2.1, cell_inv hI h1 h.2.2.1, hI.c12, cell_inv hI h2 h.2.2.2.2⟩

set_option maxHeartbeats 1000000 in
theorem Reset_any (b : Nat) (ind : Int) (eff : Nat) (T : Nat) (a : Option Addr) (w : World) (hI : Inv w b (.int .i64 0) (.int .u64 0) w)
    (hE : w.cell? ⟨0, 0, none⟩ = some (.iface T (.pointer a))) (hb0 : 0 < b)
    (he : (if ind ≤ 0 then 2 else ind) = (eff : Int)) (hel : eff ≤ 9223372036854775807) :
    Calls Tryd.prog 8 #[.pointer (some ⟨b, 0, none⟩), .slice none 0 0, .agg #[.int .i64 ind, .bool false, .int .i64 0]] w fun e w' =>
      e = .returned (.tuple #[]) ∧ Inv w b (.int .i64 eff) (.int .u64 (perOf eff)) w' := by
  have hb : b < w.heap.size := World.block_lt_of_cell? w _ hI.c17
  have HE : Hid ((if ind ≤ 0 then 2 else ind) = (eff : Int)) := he
  clear he
  have h1 : w.heap.size ≠ b := by omega
  have h2 : 0 ≠ b := by omega
  have hS : S8 b w.heap.size ind T a (w.alloc (.cells #[.int .i64 ind, .bool false, .int .i64 0] 68)) :=
    ⟨by simp [go_sem], by simp [go_sem], by simp [go_sem], cell_alloc hI.c12 _, cell_alloc hE _⟩
  have hI1 := hI.alloc (.cells #[.int .i64 ind, .bool false, .int .i64 0] 68)
  clear hI
  have c11 := reader_any false T a (w.alloc (.cells #[.int .i64 ind, .bool false, .int .i64 0] 68)).drew hS.2.2.2.2 (by simp)
  have c10 := reset_any b [.nilIface, .slice none 0 0, .int .i64 0, .int .i64 0, .int .i64 0, .iface T (.pointer a), .bool false, .bool false, .slice none 0 0, .slice none 0 0, .slice none 0 0, .int .i64 0, .slice none 0 0, .int .i64 0, .int .i64 0, .int .i64 0, .bool false] ind eff false 0 _ ((w.alloc (.cells #[.int .i64 ind, .bool false, .int .i64 0] 68)).alloc (.cells #[.nilIface, .slice none 0 0, .int .i64 0, .int .i64 0, .int .i64 0, .iface T (.pointer a), .bool false, .bool false, .slice none 0 0, .slice none 0 0, .slice none 0 0, .int .i64 0, .slice none 0 0, .int .i64 0, .int .i64 0, .int .i64 0, .bool false] 35)).drew.drew (hI1.alloc _).drew.drew.re (by simp) (by simp) (by simp [Value.oneCell']) HE.out hel
  have H11 := hide c11
  have H10 := hide c10
  clear c11 c10
  go_enter Tryd.func8, Tryd.ntmps8
  go_wp2_with fail
  go_region_held3 (fun w' => w'.cell? ⟨w.heap.size, 0, none⟩ = some (.int .i64 ind) ∧ w'.cell? ⟨w.heap.size, 1, none⟩ = some (.bool false) ∧ w'.cell? ⟨w.heap.size, 2, none⟩ = some (.int .i64 0) ∧ w'.cell? ⟨b, 12, none⟩ = some (.slice none 0 0) ∧ w'.cell? ⟨0, 0, none⟩ = some (.iface T (.pointer a)))
    ((show S8 b w.heap.size ind T a _; first | (refine S8_inv h1 h2 hI10 ?_; repeat (with_reducible first | exact hS | apply S8_drew | apply S8_alloc)) | repeat (with_reducible first | exact hS | apply S8_drew | apply S8_alloc)))
    (first
      | (go_at_call 11; go_must (refine (unhide H11).mono ?_; rintro e w1 ⟨rfl, rfl⟩))
      | (go_at_call 10; go_must (refine (unhide H10).mono ?_; rintro e w2 ⟨rfl, hI10⟩)))
  go_wp2
  go_end0
  exact ⟨rfl, (hI1.alloc _).drew.drew.trans hI10⟩

theorem Inv.new (w : World) (D : Array Value) (hD : D.size = 81) (h12 : D[12]? = some (.slice none 0 0)) (h17 : D[17]? = some (.int .i64 0)) (h18 : D[18]? = some (.int .u64 0)) (h30 : D[30]? = some (.slice none 0 0)) (h35 : D[35]? = some (.slice none 0 0)) (h76 : D[76]? = some (.slice none 0 0)) (h77 : D[77]? = some (.slice none 0 0)) :
    Inv (w.alloc (.cells D 65)) w.heap.size (.int .i64 0) (.int .u64 0) (w.alloc (.cells D 65)) := by
  have hc : ∀ j, (w.alloc (.cells D 65)).cell? ⟨w.heap.size, j, none⟩ = D[j]? := fun j => World.cell?_alloc_at _ _ _ _ rfl
  refine ⟨Below.refl _ _, fun _ _ _ => rfl, fun j hj => ⟨?_, World.frozen?_alloc_at _ _ _ _ rfl⟩, by rw [hc]; exact h12, by rw [hc]; exact h17, by rw [hc]; exact h18, by rw [hc]; exact h30, by rw [hc]; exact h35, by rw [hc]; exact h76, by rw [hc]; exact h77⟩
  rw [hc]; simp; omega

/-- A new Decoder's cells. -/
def Z65 : Array Value := #[.nilIface, .slice none 0 0, .int .i64 0, .int .i64 0, .int .i64 0, .nilIface, .bool false, .bool false, .slice none 0 0, .slice none 0 0, .slice none 0 0, .int .i64 0, .slice none 0 0, .int .i64 0, .int .i64 0, .int .i64 0, .bool false, .int .i64 0, .int .u64 0, .bool false, .int .i64 0, .int .u8 0, .int .i64 0, .int .i64 0, .int .i64 0, .slice none 0 0, .slice none 0 0, .int .i64 0, .bool false, .bool false, .slice none 0 0, .slice none 0 0, .int .i64 0, .slice none 0 0, .int .i64 0, .slice none 0 0, .slice none 0 0, .slice none 0 0, .slice none 0 0, .int .i64 0, .int .i64 0, .int .i64 0, .bool false, .int .u8 0, .bool false, .int .i64 0, .int .i64 0, .int .i64 0, .int .i64 0, .slice none 0 0, .int .i64 0, .int .i64 0, .bool false, .int .i64 0, .int .i64 0, .int .i64 0, .slice none 0 0, .int .i64 0, .int .i64 0, .int .i64 0, .int .i64 0, .int .u8 0, .slice none 0 0, .slice none 0 0, .slice none 0 0, .slice none 0 0, .slice none 0 0, .slice none 0 0, .slice none 0 0, .slice none 0 0, .slice none 0 0, .int .i64 0, .int .i64 0, .int .i64 0, .slice none 0 0, .slice none 0 0, .slice none 0 0, .slice none 0 0, .pointer none, .bool false, .int .i64 0]
theorem zero65 (w : World) : Sem.run Tryd.prog (zeroValue 65) w = .ok (.agg Z65) w := by kernel_rfl

set_option maxHeartbeats 1000000 in
theorem make_any (ind : Int) (eff : Nat) (T : Nat) (a : Option Addr) (w : World) (hE : w.cell? ⟨0, 0, none⟩ = some (.iface T (.pointer a)))
    (he : (if ind ≤ 0 then 2 else ind) = (eff : Int)) (hel : eff ≤ 9223372036854775807) :
    Calls Tryd.prog 6 #[.int .i64 ind] w fun e w' =>
      e = .returned (.pointer (some ⟨w.heap.size, 0, none⟩)) ∧ w'.cell? ⟨w.heap.size, 17, none⟩ = some (.int .i64 eff) ∧ w'.cell? ⟨w.heap.size, 18, none⟩ = some (.int .u64 (perOf eff)) ∧ Below w.heap.size w w' := by
  have HE : Hid ((if ind ≤ 0 then 2 else ind) = (eff : Int)) := he
  clear he
  have hz := zero65
  go_enter Tryd.func6, Tryd.ntmps6
  go_wp2_with fail
  refine (Reset_any w.heap.size ind eff T a (w.alloc (.cells Z65 65)) (Inv.new w Z65 rfl rfl rfl rfl rfl rfl rfl rfl) (cell_alloc hE _) (Nat.lt_of_le_of_lt (Nat.zero_le _) (World.block_lt_of_cell? w _ hE)) HE.out hel).mono ?_
  rintro e w2 ⟨rfl, hI⟩
  go_wp2_with fail
  go_ret
  exact ⟨rfl, hI.c17, hI.c18, ((Below.refl _ _).alloc (Nat.le_refl _) _).trans hI.below⟩
end Go.Proofs.Qxb6604427aDoor
