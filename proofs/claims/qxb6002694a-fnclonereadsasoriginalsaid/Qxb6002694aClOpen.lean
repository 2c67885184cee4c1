/-
  FnCloneReadsAsOriginal's argument opened: what a handed resource leads to.
-/
import Derived.Test.Qxb6002694aSize
import Derived.ProofKit
import Derived.Deep.SlicePairs
namespace Go.Proofs.Qxb6002694a
open Go Go.RowKit Go.Deep Go.ChangeShapes Go.WideShapes Go.ChangeAt
set_option maxRecDepth 100000

theorem own : ownKnob Try.prog.godebug = none := by kernel_rfl
theorem laidOut : laidOutB Try.prog = true := by kernel_rfl
theorem cells28 : Try.prog.cellsOf 28 = 13 := by kernel_rfl
theorem cells9 : Try.prog.cellsOf 9 = 1 := by kernel_rfl
theorem cells22 : Try.prog.cellsOf 22 = 1 := by kernel_rfl
theorem cells4 : Try.prog.cellsOf 4 = 1 := by kernel_rfl
theorem cells23 : Try.prog.cellsOf 23 = 1 := by kernel_rfl
theorem cells24 : Try.prog.cellsOf 24 = 1 := by kernel_rfl
theorem cells25 : Try.prog.cellsOf 25 = 1 := by kernel_rfl
theorem cells26 : Try.prog.cellsOf 26 = 1 := by kernel_rfl
theorem cells61 : Try.prog.cellsOf 61 = 3 := by kernel_rfl
theorem cells63 : Try.prog.cellsOf 63 = 2 := by kernel_rfl
theorem cells65 : Try.prog.cellsOf 65 = 5 := by kernel_rfl
theorem cells3 : Try.prog.cellsOf 3 = 1 := by kernel_rfl

variable {H : Type} {enc : TypeId × Value → H} {W : World} {base : Nat} {sp : Nat → Bool} {held : Bool} {fuel : Nat} {x : DataW H × List MemPlace}

theorem hold_cells {cs : List Value} (h : DataW.trod enc Try.prog W base sp held fuel 61 cs = some x) : ∃ h : HoldD, cs = [.string h.1, .int .u64 h.2.1, .int .u64 h.2.2] ∧ h.1.size ≤ maxLen := by
  obtain ⟨xs, k, hk, hxy, hlen, hxl, hf⟩ := DataW.trod_struct Try.underlying61 h
  rw [cells61] at hlen
  match xs, hxl, cs, hlen with
  | [y0, y1, y2], _, [v0, v1, v2], _ =>
    have g0 := hf 0 _ rfl
    have g1 := hf 1 _ rfl
    have g2 := hf 2 _ rfl
    simp [cells9, cells22] at g0 g1 g2
    obtain ⟨s0, q0, _, z0⟩ := DataW.trod_string Try.underlying9 g0
    obtain ⟨s1, q1, _⟩ := DataW.trod_int Try.underlying22 g1
    obtain ⟨s2, q2, _⟩ := DataW.trod_int Try.underlying22 g2
    simp at q0 q1 q2
    subst q0 q1 q2
    exact ⟨(s0, s1, s2), rfl, z0⟩

theorem run_cells {cs : List Value} (h : DataW.trod enc Try.prog W base sp held fuel 63 cs = some x) : ∃ h : RunD, cs = [.string h.1, .int .u64 h.2] ∧ h.1.size ≤ maxLen := by
  obtain ⟨xs, k, hk, hxy, hlen, hxl, hf⟩ := DataW.trod_struct Try.underlying63 h
  rw [cells63] at hlen
  match xs, hxl, cs, hlen with
  | [y0, y1], _, [v0, v1], _ =>
    have g0 := hf 0 _ rfl
    have g1 := hf 1 _ rfl
    simp [cells9, cells22] at g0 g1
    obtain ⟨s0, q0, _, z0⟩ := DataW.trod_string Try.underlying9 g0
    obtain ⟨s1, q1, _⟩ := DataW.trod_int Try.underlying22 g1
    simp at q0 q1
    subst q0 q1
    exact ⟨(s0, s1), rfl, z0⟩

theorem end_cells {cs : List Value} (h : DataW.trod enc Try.prog W base sp held fuel 65 cs = some x) : ∃ h : EndD, cs = [.string h.1, .int .u64 h.2.1, .string h.2.2.1, .int .i64 h.2.2.2.1, .string h.2.2.2.2] ∧ h.1.size ≤ maxLen ∧ h.2.2.1.size ≤ maxLen ∧ h.2.2.2.2.size ≤ maxLen := by
  obtain ⟨xs, k, hk, hxy, hlen, hxl, hf⟩ := DataW.trod_struct Try.underlying65 h
  rw [cells65] at hlen
  match xs, hxl, cs, hlen with
  | [y0, y1, y2, y3, y4], _, [v0, v1, v2, v3, v4], _ =>
    have g0 := hf 0 _ rfl
    have g1 := hf 1 _ rfl
    have g2 := hf 2 _ rfl
    have g3 := hf 3 _ rfl
    have g4 := hf 4 _ rfl
    simp [cells9, cells22, cells3] at g0 g1 g2 g3 g4
    obtain ⟨s0, q0, _, z0⟩ := DataW.trod_string Try.underlying9 g0
    obtain ⟨s1, q1, _⟩ := DataW.trod_int Try.underlying22 g1
    obtain ⟨s2, q2, _, z2⟩ := DataW.trod_string Try.underlying9 g2
    obtain ⟨s3, q3, _⟩ := DataW.trod_int Try.underlying3 g3
    obtain ⟨s4, q4, _, z4⟩ := DataW.trod_string Try.underlying9 g4
    simp at q0 q1 q2 q3 q4
    subst q0 q1 q2 q3 q4
    exact ⟨(s0, s1, s2, s3, s4), rfl, z0, z2, z4⟩

theorem plain_addr {a : Addr} {n : Nat} {cs : List Value} (h : W.cells? base a n = some cs) (hn : 0 < n) : ∃ b o, a = ⟨b, o, none⟩ ∧ ∀ i, i < n → W.cell? ⟨b, o + i, none⟩ = cs[i]? := by
  obtain ⟨_, hlen, hcell⟩ := World.cells?_some h
  have h0 := hcell 0 hn
  rw [show a.add 0 = a from rfl] at h0
  have hsp : a.spot = none := World.cell?_spot (v := cs[0]'(by omega)) (by rw [h0]; simp [hlen, hn])
  obtain ⟨b, o, spot⟩ := a
  simp only at hsp
  subst hsp
  exact ⟨b, o, rfl, fun i hi => by rw [← hcell i hi, Addr.add_mid]⟩

theorem hold_open {v : Value} (h : DataW.trod enc Try.prog W base sp held fuel 23 [v] = some x) : ∃ p o, v = .pointer p ∧ HoldP W (.pointer p) o ∧ ∀ h, o = some h → h.1.size ≤ maxLen := by
  rcases DataW.trod_pointer Try.underlying23 h with ⟨hv, _⟩ | ⟨a, cs', y, n, _, hv, _, hc, hy⟩
  · simp at hv
    exact ⟨none, none, hv, rfl, fun h e => by cases e⟩
  · simp at hv
    obtain ⟨d, rfl, z⟩ := hold_cells hy
    rw [cells61] at hc
    obtain ⟨b, o, rfl, hI⟩ := plain_addr hc (by omega)
    exact ⟨_, some d, hv, ⟨b, o, rfl, hI 0 (by omega), hI 1 (by omega), hI 2 (by omega)⟩, fun h e => by cases e; exact z⟩

theorem run_open {v : Value} (h : DataW.trod enc Try.prog W base sp held fuel 25 [v] = some x) : ∃ p o, v = .pointer p ∧ RunP W (.pointer p) o ∧ ∀ h, o = some h → h.1.size ≤ maxLen := by
  rcases DataW.trod_pointer Try.underlying25 h with ⟨hv, _⟩ | ⟨a, cs', y, n, _, hv, _, hc, hy⟩
  · simp at hv
    exact ⟨none, none, hv, rfl, fun h e => by cases e⟩
  · simp at hv
    obtain ⟨d, rfl, z⟩ := run_cells hy
    rw [cells63] at hc
    obtain ⟨b, o, rfl, hI⟩ := plain_addr hc (by omega)
    exact ⟨_, some d, hv, ⟨b, o, rfl, hI 0 (by omega), hI 1 (by omega)⟩, fun h e => by cases e; exact z⟩

theorem end_open {v : Value} (h : DataW.trod enc Try.prog W base sp held fuel 26 [v] = some x) : ∃ p o, v = .pointer p ∧ EndP W (.pointer p) o ∧ ∀ h, o = some h → h.1.size ≤ maxLen ∧ h.2.2.1.size ≤ maxLen ∧ h.2.2.2.2.size ≤ maxLen := by
  rcases DataW.trod_pointer Try.underlying26 h with ⟨hv, _⟩ | ⟨a, cs', y, n, _, hv, _, hc, hy⟩
  · simp at hv
    exact ⟨none, none, hv, rfl, fun h e => by cases e⟩
  · simp at hv
    obtain ⟨d, rfl, z⟩ := end_cells hy
    rw [cells65] at hc
    obtain ⟨b, o, rfl, hI⟩ := plain_addr hc (by omega)
    exact ⟨_, some d, hv, ⟨b, o, rfl, hI 0 (by omega), hI 1 (by omega), hI 2 (by omega), hI 3 (by omega), hI 4 (by omega)⟩, fun h e => by cases e; exact z⟩

theorem rds_open {v : Value} (h : DataW.trod enc Try.prog W base sp held fuel 24 [v] = some x) :
    ∃ (ao : Option Addr) (n cap : Nat) (l : List HoldD), v = .slice ao n cap ∧ l.length = n ∧ Rds W ao l ∧ (∀ j (h : j < l.length), l[j].1.size ≤ maxLen) ∧ (ao = none → n = 0 ∧ cap = 0) := by
  rcases open_slice Try.underlying24 h with ⟨hv, _⟩ | ⟨a, len, cap, m, fu, D, Pl, hv, _, hl, hm, hmm, _, hx⟩
  · simp at hv
    exact ⟨none, 0, 0, [], hv, rfl, Or.inl rfl, fun j h => absurd h (by simp), fun _ => ⟨rfl, rfl⟩⟩
  · simp at hv
    have hlm : len ≤ m := by rw [hmm]; split <;> omega
    have each : ∀ i, i < len → ∃ t : HoldD, W.cell? (a.add (i * 3)) = some (.string t.1) ∧ W.cell? (a.add (i * 3 + 1)) = some (.int .u64 t.2.1) ∧ W.cell? (a.add (i * 3 + 2)) = some (.int .u64 t.2.2) ∧ t.1.size ≤ maxLen := by
      intro i hi
      obtain ⟨cs', h1, h2⟩ := hx i (by omega)
      rw [cells61] at h1
      obtain ⟨_, hlen, hcell⟩ := World.cells?_some h1
      obtain ⟨d, rfl, z⟩ := hold_cells h2
      have e0 := hcell 0 (by omega)
      have e1 := hcell 1 (by omega)
      have e2 := hcell 2 (by omega)
      rw [add_add] at e0 e1 e2
      simp at e0 e1 e2
      exact ⟨d, e0, e1, e2, z⟩
    obtain ⟨T, hT⟩ := choose_lt each
    refine ⟨some a, len, cap, (List.range len).map T, hv, by simp, ?_, ?_, (fun h => by cases h)⟩
    · by_cases h0 : len = 0
      · subst h0; exact Or.inl rfl
      · right
        have hc0 := (hT 0 (by omega)).1
        have hsp : a.spot = none := by
          rw [show a.add (0 * 3) = a from rfl] at hc0
          exact World.cell?_spot hc0
        obtain ⟨b, off, spot⟩ := a
        simp only at hsp
        subst hsp
        refine ⟨b, off, rfl, fun j hj => ?_⟩
        have hj' : j < len := by simpa using hj
        obtain ⟨c0, c1, c2, _⟩ := hT j hj'
        rw [Addr.add_mid] at c0 c1 c2
        simp only [List.getElem_map, List.getElem_range]
        exact ⟨c0, by rw [show off + j * 3 + 1 = off + (j * 3 + 1) by omega]; exact c1, by rw [show off + j * 3 + 2 = off + (j * 3 + 2) by omega]; exact c2⟩
    · intro j hj
      have hj' : j < len := by simpa using hj
      simp only [List.getElem_map, List.getElem_range]
      exact (hT j hj').2.2.2

theorem res_open {cs : List Value} (h : DataW.trod enc Try.prog W base sp held fuel 28 cs = some x) :
    ∃ (nm kd hs pa : ByteArray) (gen : Int) (phs : ByteArray) (tr : Int) (ad : ByteArray) (cl : Bool) (wp xp lp : Option Addr) (ra : Option Addr) (rn rc : Nat) (wo : Option HoldD) (rd : List HoldD) (xo : Option RunD) (lo : Option EndD),
      cs = [.string nm, .string kd, .string hs, .string pa, .int .u64 gen, .string phs, .int .u64 tr, .string ad, .bool cl, .pointer wp, .slice ra rn rc, .pointer xp, .pointer lp] ∧
      HoldP W (.pointer wp) wo ∧ Rds W ra rd ∧ rd.length = rn ∧ (ra = none → rn = 0 ∧ rc = 0) ∧ RunP W (.pointer xp) xo ∧ EndP W (.pointer lp) lo ∧ Lens nm kd hs pa phs ad wo rd xo lo := by
  obtain ⟨xs, k, hk, hxy, hlen, hxl, hf⟩ := DataW.trod_struct Try.underlying28 h
  rw [cells28] at hlen
  match xs, hxl, cs, hlen with
  | [y0, y1, y2, y3, y4, y5, y6, y7, y8, y9, y10, y11, y12], _, [v0, v1, v2, v3, v4, v5, v6, v7, v8, v9, v10, v11, v12], _ =>
    have g0 := hf 0 _ rfl
    have g1 := hf 1 _ rfl
    have g2 := hf 2 _ rfl
    have g3 := hf 3 _ rfl
    have g4 := hf 4 _ rfl
    have g5 := hf 5 _ rfl
    have g6 := hf 6 _ rfl
    have g7 := hf 7 _ rfl
    have g8 := hf 8 _ rfl
    have g9 := hf 9 _ rfl
    have g10 := hf 10 _ rfl
    have g11 := hf 11 _ rfl
    have g12 := hf 12 _ rfl
    simp [cells9, cells22, cells4, cells23, cells24, cells25, cells26] at g0 g1 g2 g3 g4 g5 g6 g7 g8 g9 g10 g11 g12
    obtain ⟨s0, q0, _, z0⟩ := DataW.trod_string Try.underlying9 g0
    obtain ⟨s1, q1, _, z1⟩ := DataW.trod_string Try.underlying9 g1
    obtain ⟨s2, q2, _, z2⟩ := DataW.trod_string Try.underlying9 g2
    obtain ⟨s3, q3, _, z3⟩ := DataW.trod_string Try.underlying9 g3
    obtain ⟨s4, q4, _⟩ := DataW.trod_int Try.underlying22 g4
    obtain ⟨s5, q5, _, z5⟩ := DataW.trod_string Try.underlying9 g5
    obtain ⟨s6, q6, _⟩ := DataW.trod_int Try.underlying22 g6
    obtain ⟨s7, q7, _, z7⟩ := DataW.trod_string Try.underlying9 g7
    obtain ⟨s8, q8, _⟩ := DataW.trod_bool Try.underlying4 g8
    obtain ⟨wp, wo, rfl, hW, zW⟩ := hold_open g9
    obtain ⟨ra, rn, rc, rd, rfl, hrn, hR, zR, hnil⟩ := rds_open g10
    obtain ⟨xp, xo, rfl, hX, zX⟩ := run_open g11
    obtain ⟨lp, lo, rfl, hL, zL⟩ := end_open g12
    simp at q0 q1 q2 q3 q4 q5 q6 q7 q8
    subst q0 q1 q2 q3 q4 q5 q6 q7 q8
    exact ⟨s0, s1, s2, s3, s4, s5, s6, s7, s8, wp, xp, lp, ra, rn, rc, wo, rd, xo, lo, rfl, hW, hR, hrn, hnil, hX, hL, ⟨z0, z1, z2, z3, z5, z7, zW, zR, zX, zL⟩⟩
end Go.Proofs.Qxb6002694a
