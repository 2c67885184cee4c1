/-
  longItem (31), ZZlongItem (22).
-/
import Derived.Test.Qxb6604427aText
namespace Go.Proofs.Qxb6604427a
open Go Go.RowKit
set_option maxRecDepth 100000

theorem ret3v {a c d g : Int} {v : Value} {k l : IntKind} (h : a = d) (h' : c = g) : Ending.returned (.tuple #[.int k a, v, .int l c]) = .returned (.tuple #[.int k d, v, .int l g]) := by rw [h, h']

/-- A slice's value for a text that stands where the tape has it (or nil for the empty text). -/
def inVal (gs : Nat → Nat) (q n : Nat) : Value := if n = 0 then .slice none 0 0 else .slice (some ⟨gs (q / 65536), q % 65536, none⟩) n n

set_option maxHeartbeats 1000000 in
theorem long_in (bt gb c : Nat) (gs f : Nat → Nat) (N p k bb bo : Nat) (t : List Nat) (w : World) (T : TapeAt w bt gb c gs f N) (hN : N ≤ 16777216) (hk : k ≤ 15) (hE : UvAt f p (enc k t)) (hp : p + (enc k t).length ≤ N)
    (hI : t.length = 0 ∨ InBlock (p + hdr t.length) t.length) :
    Calls Try.prog 31 #[.pointer (some ⟨bt, 0, none⟩), .int .i64 p, .pointer (some ⟨bb, bo, none⟩)] w fun e w' => e = .returned (.tuple #[.int .u8 k, inVal gs (p + hdr t.length) t.length, .int .i64 ((p + (enc k t).length : Nat) : Int)]) ∧ w' = w := by
  have hl := enc_split k t
  have hh := hdr_le t.length
  have C29 := hide (head_any bt gb c gs f N p k t w T hN hk hE hp (by omega))
  have HL := hide hl
  have HE := hide hE
  clear hE
  generalize hn : t.length = n at *
  generalize hq : p + hdr n = q at *
  have hqn : q + n ≤ N := by omega
  have HP := hide (show p + (enc k t).length = q + n by omega)
  clear hq hl hp hh hn
  by_cases h0 : n = 0
  · subst h0
    go_enter Try.func31, Try.ntmps31
    go_wp2_with fail
    refine (unhide C29).mono ?_
    rintro e w1 ⟨rfl, rfl⟩
    go_wp2_with fail
    refine (text_none bt bb bo q _).mono ?_
    rintro e w2 ⟨rfl, rfl⟩
    go_wp2_with fail
    go_ret3
    exact ⟨ret3v rfl (by rw [HP.out]; omega), rfl⟩
  · have hI' : InBlock q n := hI.resolve_left h0
    have HI := hide hI'
    clear hI hI'
    go_enter Try.func31, Try.ntmps31
    go_wp2_with fail
    refine (unhide C29).mono ?_
    rintro e w1 ⟨rfl, rfl⟩
    go_wp2_with fail
    refine (text_in bt gb c gs f N q n bb bo _ T hqn (by omega) hN HI.out).mono ?_
    rintro e w2 ⟨rfl, rfl⟩
    go_wp2_with fail
    go_ret3
    refine ⟨?_, rfl⟩
    unfold inVal
    rw [if_neg h0]
    exact ret3v rfl (by rw [HP.out]; omega)

set_option maxHeartbeats 1000000 in
theorem long_join (bt gb c : Nat) (gs f : Nat → Nat) (N p k bb bo : Nat) (t : List Nat) (w : World) (T : TapeAt w bt gb c gs f N) (hN : N ≤ 16777216) (hk : k ≤ 15) (hE : UvAt f p (enc k t)) (hp : p + (enc k t).length ≤ N)
    (hn : 0 < t.length) (hI : ¬ InBlock (p + hdr t.length) t.length) (vb : Value) (lb : Nat) (X : List Value) (hcb : w.cell? ⟨bb, bo, none⟩ = some vb) (hfb : w.frozen? ⟨bb, bo, none⟩ = false)
    (hvo : w.ownsRow 0 5 1 vb lb X) (hap : ∀ G, vb.ownBlock = some G → Apart bt gb gs N G ∧ G ≠ bb) :
    Calls Try.prog 31 #[.pointer (some ⟨bt, 0, none⟩), .int .i64 p, .pointer (some ⟨bb, bo, none⟩)] w fun e w' => ∃ G C, e = .returned (.tuple #[.int .u8 k, .slice (some ⟨G, 0, none⟩) t.length C, .int .i64 ((p + (enc k t).length : Nat) : Int)]) ∧
      w'.cell? ⟨bb, bo, none⟩ = some (.slice (some ⟨G, 0, none⟩) t.length C) ∧ w'.ownsRow 0 5 1 (.slice (some ⟨G, 0, none⟩) t.length C) t.length (bc t) ∧ ((G = w.heap.size ∧ C = t.length) ∨ vb.ownBlock = some G) ∧ Chg w w' bb bo vb := by
  have hl := enc_split k t
  have hh := hdr_le t.length
  have C29 := hide (head_any bt gb c gs f N p k t w T hN hk hE hp (by omega))
  have htx : txt f (p + hdr t.length) t.length = t := by
    refine List.ext_getElem (by simp [txt]) fun j h1 h2 => ?_
    have := enc_text hE j h2
    simpa [txt] using this
  have HT := hide htx
  clear hE htx
  generalize hn' : t.length = n at *
  generalize hq : p + hdr n = q at *
  have hqn : q + n ≤ N := by omega
  have HP := hide (show p + (enc k t).length = q + n by omega)
  have C36 := hide (text_join bt gb c gs f N q n bb bo w T hqn hn hN hI vb lb X hcb hfb hvo hap)
  clear hq hl hp hh hn' hI hcb hfb hvo hap T
  go_enter Try.func31, Try.ntmps31
  go_wp2_with fail
  refine (unhide C29).mono ?_
  rintro e w1 ⟨rfl, hw1⟩
  rw [hw1]
  clear hw1
  go_wp2_with fail
  refine (unhide C36).mono ?_
  rintro e w2 ⟨G, C, rfl, a1, a2, a3, a4⟩
  rw [HT.out] at a2
  go_wp2_with fail
  go_ret3
  exact ⟨G, C, ret3v rfl (by rw [HP.out]; omega), a1, a2, a3, a4⟩
end Go.Proofs.Qxb6604427a
