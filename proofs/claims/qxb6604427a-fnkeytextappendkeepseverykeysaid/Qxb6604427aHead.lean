/-
  head (29): an item's kind, its text's length, the place of its text.
-/
import Derived.Test.Qxb6604427aRead
namespace Go.Proofs.Qxb6604427a
open Go Go.RowKit
set_option maxRecDepth 100000

/-- How many bytes stand ahead of an item's text. -/
def hdr (n : Nat) : Nat := if n < 15 then 1 else 1 + (uv (n - 15)).length
theorem enc_split (k : Nat) (t : List Nat) : (enc k t).length = hdr t.length + t.length := by
  unfold enc hdr; split
  · simp; omega
  · simp; omega
theorem hdr_le (n : Nat) : 1 ≤ hdr n ∧ hdr n ≤ n + 1 := by
  unfold hdr; split
  · omega
  · have := uv_len (n - 15); omega
/-- The text behind the head. -/
theorem enc_text {f : Nat → Nat} {p k : Nat} {t : List Nat} (h : UvAt f p (enc k t)) : UvAt f (p + hdr t.length) t := by
  intro j hj
  have hl := enc_split k t
  have h1 := h (hdr t.length + j) (by omega)
  rw [show p + hdr t.length + j = p + (hdr t.length + j) by omega, h1]
  have hd : (enc k t).drop (hdr t.length) = t := by
    unfold enc hdr; split
    · simp
    · rw [Nat.add_comm 1, List.drop_succ_cons, List.drop_left]
  have : (enc k t)[hdr t.length + j]? = t[j]? := by rw [← List.getElem?_drop, hd]
  rw [List.getElem?_eq_getElem (by omega), List.getElem?_eq_getElem hj] at this
  exact Option.some.inj this
theorem enc_head {f : Nat → Nat} {p k : Nat} {t : List Nat} (h : UvAt f p (enc k t)) : f p = if t.length < 15 then k + 16 * t.length else k + 240 := by
  have hl := enc_split k t
  have h1 := h 0 (by have := hdr_le t.length; omega)
  rw [Nat.add_zero] at h1
  rw [h1]
  unfold enc
  split <;> simp
theorem enc_uv {f : Nat → Nat} {p k : Nat} {t : List Nat} (h : UvAt f p (enc k t)) (hn : ¬ t.length < 15) : UvAt f (p + 1) (uv (t.length - 15)) := by
  intro j hj
  have hl := enc_split k t
  have he : hdr t.length = 1 + (uv (t.length - 15)).length := by unfold hdr; rw [if_neg hn]
  have h1 := h (1 + j) (by omega)
  rw [show p + 1 + j = p + (1 + j) by omega, h1]
  have : (enc k t)[1 + j]? = (uv (t.length - 15))[j]? := by
    unfold enc; rw [if_neg hn, Nat.add_comm 1, List.getElem?_cons_succ, List.getElem?_append_left hj]
  rw [List.getElem?_eq_getElem (by omega), List.getElem?_eq_getElem hj] at this
  exact Option.some.inj this

theorem ret_three {k l m : IntKind} {a b c d e g : Int} (h : a = d) (h' : b = e) (h'' : c = g) : Ending.returned (.tuple #[.int k a, .int l b, .int m c]) = .returned (.tuple #[.int k d, .int l e, .int m g]) := by rw [h, h', h'']

set_option maxHeartbeats 1000000 in
theorem head_any (bt gb c : Nat) (gs f : Nat → Nat) (N p k : Nat) (t : List Nat) (w : World) (T : TapeAt w bt gb c gs f N) (hN : N ≤ 16777216) (hk : k ≤ 15) (hE : UvAt f p (enc k t)) (hp : p + (enc k t).length ≤ N) (ht : t.length ≤ 16777216) :
    Calls Try.prog 29 #[.pointer (some ⟨bt, 0, none⟩), .int .i64 p] w fun e w' => e = .returned (.tuple #[.int .u8 k, .int .u64 t.length, .int .i64 ((p + hdr t.length : Nat) : Int)]) ∧ w' = w := by
  have hl := enc_split k t
  have hh := hdr_le t.length
  have hpN : p < N := by omega
  have hc := T.cell p hpN
  have hfp := enc_head hE
  generalize hC : f p = C at hc hfp
  by_cases hn : t.length < 15
  · rw [if_pos hn] at hfp
    have hC1 : (C : Int) < 256 := by omega
    have hand : bits .and .u8 (C : Int) 15 = (k : Int) := by rw [and_15 C (by omega)]; omega
    obtain ⟨n, hn'⟩ : ∃ n : Nat, n = t.length := ⟨_, rfl⟩
    have hshr : (C : Int) / 16 = (n : Int) := by omega
    have hn15 : ((n : Int) == 15) = false := by simp; omega
    have HN := hide hn'
    clear hfp hC hn'
    go_enter Try.func29, Try.ntmps29
    go_wp2_with fail
    refine (at_any bt gb c gs f N p w T hpN hN).mono ?_
    rintro e w1 ⟨rfl, rfl⟩
    go_wp2_with fail
    go_ret3
    exact ⟨ret_three rfl (by rw [HN.out]) (by unfold hdr; rw [if_pos hn]; omega), rfl⟩
  · rw [if_neg hn] at hfp
    have hC1 : (C : Int) < 256 := by omega
    have hand : bits .and .u8 (C : Int) 15 = (k : Int) := by rw [and_15 C (by omega)]; omega
    have hshr : (C : Int) / 16 = 15 := by omega
    have hU := enc_uv hE hn
    have hhd : hdr t.length = 1 + (uv (t.length - 15)).length := by unfold hdr; rw [if_neg hn]
    have HH := hide hhd
    have hq : p + 1 + (uv (t.length - 15)).length ≤ N := by omega
    clear hfp hC hhd hl hh
    go_enter Try.func29, Try.ntmps29
    go_wp2_with fail
    refine (at_any bt gb c gs f N p w T hpN hN).mono ?_
    rintro e w1 ⟨rfl, rfl⟩
    go_wp2_with fail
    rw [show (p : Int) + 1 = ((p + 1 : Nat) : Int) by omega]
    refine (uvarint_any bt gb c gs f N (p + 1) (t.length - 15) w1 T hN (by omega) hU hq).mono ?_
    rintro e w2 ⟨rfl, rfl⟩
    generalize hu : t.length - 15 = u at *
    have HU := hide hu
    have hu2 : u ≤ 16777216 := by omega
    clear hu
    go_wp2_with fail
    go_ret3
    refine ⟨ret_three rfl ?_ ?_, rfl⟩
    · have := HU.out
      first | omega | (simp; omega)
    · rw [HH.out, ← HU.out]; first | omega | (simp; omega)
end Go.Proofs.Qxb6604427a
