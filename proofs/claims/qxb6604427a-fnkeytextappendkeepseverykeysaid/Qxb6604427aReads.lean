/-
  FnLongItemReadsTheItemAt (5), walked.
-/
import Derived.Test.Qxb6604427aSetup
import Derived.Deep.QuietTactic
import Derived.BigQuiet
import Derived.LaidEql
namespace Go.Proofs.Qxb6604427a
open Go Go.RowKit
set_option maxRecDepth 100000

theorem zzlong_in (bt gb c : Nat) (gs f : Nat → Nat) (N p k bb : Nat) (t : List Nat) (w : World) (T : TapeAt w bt gb c gs f N) (hN : N ≤ 16777216) (hk : k ≤ 15) (hE : UvAt f p (enc k t)) (hp : p + (enc k t).length ≤ N)
    (hI : t.length = 0 ∨ InBlock (p + hdr t.length) t.length) :
    Calls Try.prog 22 #[.pointer (some ⟨bt, 0, none⟩), .int .i64 p, .pointer (some ⟨bb, 0, none⟩)] w fun e w' => e = .returned (.tuple #[.int .u8 k, inVal gs (p + hdr t.length) t.length, .int .i64 ((p + (enc k t).length : Nat) : Int)]) ∧ w' = w := by
  have C := hide (long_in bt gb c gs f N p k bb 0 t w T hN hk hE hp hI)
  generalize inVal gs (p + hdr t.length) t.length = V at *
  generalize p + (enc k t).length = Q at *
  clear hE hI T
  go_enter Try.func22, Try.ntmps22
  go_wp2_with fail
  refine (unhide C).mono ?_
  rintro e w' ⟨rfl, rfl⟩
  go_wp2_with fail
  go_ret3
  exact ⟨rfl, rfl⟩

theorem zzlong_join (bt gb c : Nat) (gs f : Nat → Nat) (N p k bb : Nat) (t : List Nat) (w : World) (T : TapeAt w bt gb c gs f N) (hN : N ≤ 16777216) (hk : k ≤ 15) (hE : UvAt f p (enc k t)) (hp : p + (enc k t).length ≤ N)
    (hn : 0 < t.length) (hI : ¬ InBlock (p + hdr t.length) t.length) (vb : Value) (lb : Nat) (X : List Value) (hcb : w.cell? ⟨bb, 0, none⟩ = some vb) (hfb : w.frozen? ⟨bb, 0, none⟩ = false)
    (hvo : w.ownsRow 0 5 1 vb lb X) (hap : ∀ G, vb.ownBlock = some G → Apart bt gb gs N G ∧ G ≠ bb) :
    Calls Try.prog 22 #[.pointer (some ⟨bt, 0, none⟩), .int .i64 p, .pointer (some ⟨bb, 0, none⟩)] w fun e w' => ∃ G C, e = .returned (.tuple #[.int .u8 k, .slice (some ⟨G, 0, none⟩) t.length C, .int .i64 ((p + (enc k t).length : Nat) : Int)]) ∧
      w'.cell? ⟨bb, 0, none⟩ = some (.slice (some ⟨G, 0, none⟩) t.length C) ∧ w'.ownsRow 0 5 1 (.slice (some ⟨G, 0, none⟩) t.length C) t.length (bc t) ∧ ((G = w.heap.size ∧ C = t.length) ∨ vb.ownBlock = some G) ∧ Chg w w' bb 0 vb := by
  have CC := hide (long_join bt gb c gs f N p k bb 0 t w T hN hk hE hp hn hI vb lb X hcb hfb hvo hap)
  generalize p + (enc k t).length = Q at *
  clear hE hI T hcb hfb hvo hap
  go_enter Try.func22, Try.ntmps22
  go_wp2_with fail
  refine (unhide CC).mono ?_
  rintro e w' ⟨G, C, rfl, a1, a2, a3, a4⟩
  go_wp2_with fail
  go_ret3
  exact ⟨G, C, rfl, a1, a2, a3, a4⟩

theorem inVal_holds {w : World} {bt gb c : Nat} {gs f : Nat → Nat} {N : Nat} (T : TapeAt w bt gb c gs f N) {p k : Nat} {t : List Nat} (hE : UvAt f p (enc k t)) (hp : p + (enc k t).length ≤ N) (hI : t.length = 0 ∨ InBlock (p + hdr t.length) t.length) :
    Holds w (inVal gs (p + hdr t.length) t.length) t := by
  have hl := enc_split k t
  unfold inVal
  by_cases h0 : t.length = 0
  · rw [if_pos h0]; exact Or.inl ⟨List.eq_nil_of_length_eq_zero h0, _, _, rfl⟩
  · rw [if_neg h0]
    have hI' := hI.resolve_left h0
    refine Or.inr ⟨_, _, _, rfl, fun j hj => ?_⟩
    have ht := enc_text hE j hj
    have hcell := T.cell (p + hdr t.length + j) (by omega)
    unfold InBlock at hI'
    rw [show (p + hdr t.length + j) / 65536 = (p + hdr t.length) / 65536 by omega, show (p + hdr t.length + j) % 65536 = (p + hdr t.length) % 65536 + j by omega, ht] at hcell
    exact hcell

theorem Holds.alloc {w : World} {v : Value} {l : List Nat} (h : Holds w v l) (o : Obj) : Holds (w.alloc o) v l := by
  rcases h with h | ⟨g, o', c', hv, hI⟩
  · exact Or.inl h
  · exact Or.inr ⟨g, o', c', hv, fun j hj => cell_alloc (hI j hj) o⟩

theorem run_neq_ptr (w : World) (a : Addr) : (binOp .neq 51 (.pointer (some a)) (.pointer (some a))).run Try.prog w = .ok (.bool false) w := by
  obtain ⟨i5, hi5, _, _, _⟩ := info_parts Try.info5
  have h : ∀ d : Nat, (Op.equalIn (d + 1) 51 (.pointer (some a)) (.pointer (some a))).run Try.prog w = .ok true w := fun d => by
    simp [Op.equalIn, run_underlying Try.underlying51, sizeOf, typeInfo, hi5, run_sameAddr_same]
  simp only [binOp]
  simp [Op.equal, Op.maxDepth, h 9999]

theorem Holds.drewN {w : World} {v : Value} {l : List Nat} (h : Holds w v l) (n : Nat) : Holds (w.drewN n) v l := h

theorem Holds.below {w w' : World} {ao : Option Addr} {n c : Nat} {l : List Nat} (h : Holds w (.slice ao n c) l) (hB : Below w.heap.size w w') (hb : ∀ a, ao = some a → 0 < n → a.block < w.heap.size) : Holds w' (.slice ao n c) l := by
  rcases h with h | ⟨g, o, c', hv, hI⟩
  · exact Or.inl h
  · simp only [Value.slice.injEq] at hv
    obtain ⟨rfl, rfl, rfl⟩ := hv
    exact Or.inr ⟨g, o, c, rfl, fun j hj => (hB.cell (p := ⟨g, o + j, none⟩) (hb ⟨g, o, none⟩ rfl (by omega))).trans (hI j hj)⟩

set_option maxHeartbeats 2000000 in
theorem reads_main (b off n cap : Nat) (idx : Nat) (ab : Option Addr) (lb cb : Nat) (l : List (Nat × ByteArray)) (L : List Nat) (w : World)
    (hI : ∀ j (h : j < l.length), w.cell? ⟨b, off + j * 2, none⟩ = some (.int .u8 (l[j].1 : Int)) ∧ w.cell? ⟨b, off + j * 2 + 1, none⟩ = some (.string l[j].2)) (hb : b < w.heap.size) (hn : l.length = n)
    (hL : Holds w (.slice ab lb cb) L) (hLl : L.length = lb) (hnil : ab = none → lb = 0 ∧ cb = 0) (hbb : ∀ a, ab = some a → 0 < lb → a.block < w.heap.size)
    (hm : ∀ j (h : j < l.length), l[j].2.size ≤ maxLen) (hmn : n ≤ maxLen) (hml : lb ≤ maxLen) (hidx : (idx : Int) < (n : Int)) :
    Calls Try.prog 5 #[.slice (some ⟨b, off, none⟩) n cap, .int .i64 idx, .slice ab lb cb] w fun e w' => e = .returned (.bool true) ∧ Below w.heap.size w w' := by
  have hIn : ItemsIn w (some ⟨b, off, none⟩) l := Or.inr ⟨b, off, rfl, hI⟩
  have H14 := hide (bytes14 (some ⟨b, off, none⟩) ab cap lb cb n idx l w hIn hn hmn hml hm)
  have H16 := hide (kinds16 (some ⟨b, off, none⟩) cap n l w hIn hn)
  have H15 := hide (big15 (some ⟨b, off, none⟩) cap n lb l w hIn hn)
  have HIN := hide hI
  have HL := hide hL
  have HNIL := hide hnil
  have HBB := hide hbb
  have HM := hide hm
  unfold maxLen at hmn hml
  clear hI hL hnil hbb hm hIn
  go_enter Try.func5, Try.ntmps5
  go_wp2_with fail
  refine (unhide H14).mono ?_
  rintro e w1 ⟨⟨r, rfl, hr⟩, hw⟩
  rw [hw]
  clear hw
  cases r with
  | false =>
    go_wp2_with fail
    go_ret
    exact ⟨rfl, Below.refl _ _⟩
  | true =>
  obtain ⟨hn1, htot, hlb⟩ := hr rfl
  clear hr H14
  have hn1' : (n : Int) ≤ 1048576 := by omega
  by_cases hn2 : (n : Int) ≤ 65536
  case neg =>
    have hd : decide ((65536 : Int) < (n : Int)) = true := by simp; omega
    go_wp2_with fail
    go_ret
    exact ⟨rfl, Below.refl _ _⟩
  have hd : decide ((65536 : Int) < (n : Int)) = false := by simp; omega
  have hd2 : decide ((1048576 : Int) < (lb : Int)) = false := by simp; omega
  go_wp2_with fail
  refine (unhide H15 hn1' (by omega) (by omega) htot).mono ?_
  rintro e w1 ⟨⟨r, rfl, hr⟩, hw⟩
  rw [hw]
  clear hw hr H15
  cases r with
  | true =>
    go_wp2_with fail
    go_ret
    exact ⟨rfl, Below.refl _ _⟩
  | false =>
  go_wp2_with fail
  refine (unhide H16 hn1').mono ?_
  rintro e w1 ⟨⟨r, rfl, hr⟩, hw⟩
  rw [hw]
  clear hw H16
  cases r with
  | false =>
    go_wp2_with fail
    go_ret
    exact ⟨rfl, Below.refl _ _⟩
  | true =>
  have HK := hide (hr rfl)
  clear hr
  have hd3 : decide ((idx : Int) < 0) = false := by simp
  have hd4 : decide ((n : Int) ≤ (idx : Int)) = false := by simp; omega
  go_wp2_with fail
  refine (clone17 b off n cap l w HIN.out hb hn hn1').mono ?_
  rintro e w1 ⟨rfl, hI1, hB1⟩
  have HI1 := hide hI1
  have hs1 : w.heap.size < w1.heap.size := World.block_lt_of_cell? w1 _ (hI1 idx (by omega)).1
  clear hI1
  go_wp2_with fail
  have hL1 : Holds w1 (.slice ab lb cb) L := HL.out.below hB1 HBB.out
  refine (clone18_any ab lb cb L w1 hL1 HNIL.out (fun a h1 h2 => Nat.lt_trans (HBB.out a h1 h2) hs1) hLl (by omega)).mono ?_
  rintro e w2 ⟨ab2, rfl, ho2, hn2', hB2⟩
  have HN2 := hide hn2'
  clear hn2' hL1
  go_wp2_with fail
  have hs2 : w1.heap.size ≤ w2.heap.size := hB2.size
  refine (clone18_any ab2 lb lb L w2 (own_holds ho2) ?_ (fun a h1 h2 => (ho2.lt a.block (by rw [h1]; rfl)).2) hLl (by omega)).mono ?_
  · rintro rfl
    rcases ho2.2 with ⟨h, h0⟩ | ⟨_, _, _, h, _⟩
    · exact ⟨h0, h0⟩
    · simp at h
  rintro e w3 ⟨ab3, rfl, ho3, hn3', hB3⟩
  clear hn3'
  have hs3 : w2.heap.size ≤ w3.heap.size := hB3.size
  go_wp2_with fail
  have hI3 : ItemsAt w3 w.heap.size l := (HI1.out.block (hB2.block _ hs1)).block (hB3.block _ (by omega))
  refine (encode_any w.heap.size n l w3 hI3 hn (by omega) HK.out hn1' htot).mono ?_
  rintro e w4 ⟨vf, vp, rfl, ho4, hvp, hp4, hB4⟩
  subst hvp
  obtain ⟨af, cf, rfl⟩ := own_shape ho4
  have hI4 : ItemsAt w4 w.heap.size l := hI3.block (hB4.block _ (by omega))
  clear hI3
  have HI4 := hide hI4
  clear hI4 HI1 HIN
  have hpl := place_le l n (by omega)
  have hNp : place l (idx + 1) ≤ (encAll l).length := place_mono l (idx + 1)
  have hpn := place_next l idx (by omega)
  have hel := (enc_len l[idx].1 (bs l[idx].2)).2
  have htn := total_take l n
  rw [show n = l.length from hn.symm, place_all] at hpl
  rw [hn] at hpl
  have HF : Hid (∀ q, q < (encAll l).length → w4.cell? ⟨(af.getD ⟨0, 0, none⟩).block, q, none⟩ = some (.int .u8 (fl l q : Int))) := by
    intro q hq
    rcases ho4.2 with ⟨_, h0⟩ | ⟨g, c, cur, hv, _⟩
    · omega
    · simp only [Value.slice.injEq] at hv
      obtain ⟨rfl, _, rfl⟩ := hv
      rw [Option.getD_some]
      show w4.cell? ⟨g, q, none⟩ = _
      rw [ho4.cellAt q (by omega)]
      simp [bc, fl, hq]
  have haf : ∃ gf, af = some ⟨gf, 0, none⟩ ∧ gf < w4.heap.size := by
    rcases ho4.2 with ⟨_, h0⟩ | ⟨g, c, cur, hv, _⟩
    · omega
    · simp only [Value.slice.injEq] at hv
      obtain ⟨rfl, _, rfl⟩ := hv
      exact ⟨g, rfl, (ho4.lt g rfl).2⟩
  obtain ⟨gf, rfl, hgf⟩ := haf
  have hs4 : w3.heap.size < w4.heap.size := (hp4.lt _ rfl).2
  have HNN := hide (show (encAll l).length = place l n by rw [← hn, place_all])
  clear ho4
  generalize hNN : (encAll l).length = N at *
  have HNL := hide hNN
  clear hNN
  go_wp2_with fail
  refine (blocks_any gf cf N (fl l) w4 HF.out hgf (by omega)).mono ?_
  rintro e w5 ⟨vb, gs, rfl, hob, hgs, hby, hB5⟩
  obtain ⟨gb, cc, rfl, hgb1, hgb2, hT⟩ := tape_of (by omega) hob hby (.int .i64 (N : Int))
  clear hob hby
  have hs5 : w4.heap.size ≤ w5.heap.size := hB5.size
  have HGS := hide hgs
  have HT := hide hT
  clear hgs hT
  go_wp2_with fail
  refine (newTape_any _ _ _ _ w5).mono ?_
  rintro e w6 ⟨rfl, hw6⟩
  rw [hw6]
  clear hw6
  go_upto_region 17 with fail
  have hpl7 : ∀ j, j ≤ n → ((w5.alloc (.cells #[.slice (some ⟨gb, 0, none⟩) (nb N) cc, .int .i64 (N : Int)] 65)).alloc (.cells #[.slice ab2 lb lb] 29)).cell? ⟨w3.heap.size, j, none⟩ = some (.int .i64 (place l j : Int)) := fun j hj => by
    refine cell_alloc (cell_alloc ((hB5.cell (p := ⟨w3.heap.size, j, none⟩) hs4).trans ?_) _) _
    rw [hp4.cellAt j (by omega), ic_places l (n + 1) j (by omega)]
  have hit7 : ItemsAt ((w5.alloc (.cells #[.slice (some ⟨gb, 0, none⟩) (nb N) cc, .int .i64 (N : Int)] 65)).alloc (.cells #[.slice ab2 lb lb] 29)) w.heap.size l := fun j hj => by
    have h := (HI4.out.block (hB5.block _ (by omega))) j hj
    exact ⟨cell_alloc (cell_alloc h.1 _) _, cell_alloc (cell_alloc h.2 _) _⟩
  have T7 : TapeAt ((w5.alloc (.cells #[.slice (some ⟨gb, 0, none⟩) (nb N) cc, .int .i64 (N : Int)] 65)).alloc (.cells #[.slice ab2 lb lb] 29)) w5.heap.size gb cc gs (fl l) N := HT.out.grownN (World.grownBy_alloc _ _ _)
  have hbb7 : ((w5.alloc (.cells #[.slice (some ⟨gb, 0, none⟩) (nb N) cc, .int .i64 (N : Int)] 65)).alloc (.cells #[.slice ab2 lb lb] 29)).cell? ⟨w5.heap.size + 1, 0, none⟩ = some (.slice ab2 lb lb) := by
    rw [World.cell?_alloc_at _ _ _ _ (by simp)]; rfl
  have hfb7 : ((w5.alloc (.cells #[.slice (some ⟨gb, 0, none⟩) (nb N) cc, .int .i64 (N : Int)] 65)).alloc (.cells #[.slice ab2 lb lb] 29)).frozen? ⟨w5.heap.size + 1, 0, none⟩ = false := World.frozen?_alloc_at _ _ _ _ (by simp)
  have hbk : ∀ k, k < w5.heap.size → ((w5.alloc (.cells #[.slice (some ⟨gb, 0, none⟩) (nb N) cc, .int .i64 (N : Int)] 65)).alloc (.cells #[.slice ab2 lb lb] 29)).heap[k]? = w5.heap[k]? := fun k hk =>
    (Below.heap_alloc _ _ _ (by simp; omega)).trans (Below.heap_alloc _ _ _ hk)
  have hsz7 : ((w5.alloc (.cells #[.slice (some ⟨gb, 0, none⟩) (nb N) cc, .int .i64 (N : Int)] 65)).alloc (.cells #[.slice ab2 lb lb] 29)).heap.size = w5.heap.size + 2 := by simp
  have hB7 : Below w.heap.size w ((w5.alloc (.cells #[.slice (some ⟨gb, 0, none⟩) (nb N) cc, .int .i64 (N : Int)] 65)).alloc (.cells #[.slice ab2 lb lb] 29)) :=
    (((((hB1.trans (hB2.mono (by omega))).trans (hB3.mono (by omega))).trans (hB4.mono (by omega))).trans (hB5.mono (by omega))).alloc (by omega) _).alloc (by simp; omega) _
  generalize ((w5.alloc (.cells #[.slice (some ⟨gb, 0, none⟩) (nb N) cc, .int .i64 (N : Int)] 65)).alloc (.cells #[.slice ab2 lb lb] 29)) = w7 at *
  have hk2 : ∀ k, (Value.slice ab2 lb lb).ownBlock = some k → w1.heap.size ≤ k ∧ k < w2.heap.size := fun k hk => ho2.lt k hk
  have hk3 : ∀ k, (Value.slice ab3 lb lb).ownBlock = some k → w2.heap.size ≤ k ∧ k < w3.heap.size := fun k hk => ho3.lt k hk
  have ho7 : w7.ownsRow 0 5 1 (.slice ab2 lb lb) lb (bc L) := own_keep ho2 (fun k hk => by
    have h := hk2 k hk
    exact (hbk k (by omega)).trans ((hB5.block k (by omega)).trans ((hB4.block k (by omega)).trans (hB3.block k (by omega))))) (Nat.zero_le _)
  have hbe7 : w7.ownsRow 0 5 1 (.slice ab3 lb lb) lb (bc L) := own_keep ho3 (fun k hk => by
    have h := hk3 k hk
    exact (hbk k (by omega)).trans ((hB5.block k (by omega)).trans (hB4.block k (by omega)))) (Nat.zero_le _)
  have hap7 : ∀ G, (Value.slice ab2 lb lb).ownBlock = some G → Apart w5.heap.size gb gs N G ∧ G ≠ w5.heap.size + 1 := fun G hG => by
    have h := hk2 G hG
    exact ⟨⟨by omega, by omega, fun q hq => by have := HGS.out q hq; omega⟩, by omega⟩
  have Hsz7 := hide hsz7
  clear hsz7
  have Hpl7 := hide hpl7
  have Hit7 := hide hit7
  have HT7 := hide T7
  have Ho7 := hide ho7
  have Hbe7 := hide hbe7
  have Hap7 := hide hap7
  have hpc := hpl7 idx (by omega)
  clear hpl7 hit7 T7 ho7 hbe7 hap7 hbk ho2 ho3 hp4 HI4 HT HF HL
  have hE := place_at l idx (by omega)
  have hkk := HK.out idx (by omega)
  have hii := Hit7.out idx (by omega)
  have hss := size_le l idx (by omega)
  generalize l[idx] = x at *
  obtain ⟨k, s⟩ := x
  simp only at hE hkk hii hpn hel hss
  obtain ⟨ci0, ci1⟩ := hii
  have hpe := Hpl7.out (idx + 1) (by omega)
  have hsp := enc_split k (bs s)
  rw [bs_len] at hel hsp
  have hEnd : place l (idx + 1) = place l idx + hdr s.size + s.size := by omega
  have HE := hide hE
  have HPN := hide hpn
  have hE2 : place l (idx + 1) ≤ N := hNp
  generalize hP : place l idx = P at *
  generalize hQ : place l (idx + 1) = Q at *
  clear hP hQ
  have HEND := hide hEnd
  have hQ0 : P + s.size < Q := by omega
  clear hE hpn hEnd hsp
  have hnil29 := fun (W : World) (a : Option Addr) (n c n' c' : Nat) => Lib.run_eql_slice_nil (P := Try.prog) W _ _ a n c n' c' Try.underlying29
  by_cases hIB : (bs s).length = 0 ∨ InBlock (P + hdr (bs s).length) (bs s).length
  · have HV := hide (inVal_holds (HT7.out) HE.out (by have := HPN.out; omega) hIB)
    have C22 := hide (zzlong_in w5.heap.size gb cc gs (fl l) N P k (w5.heap.size + 1) (bs s) w7 HT7.out (by omega) hkk HE.out (by have := HPN.out; omega) hIB)
    rw [← HPN.out] at C22
    rw [bs_len] at HV C22 hIB
    generalize hV : inVal gs (P + hdr s.size) s.size = V at *
    obtain ⟨av, cv, hVs⟩ := holds_shape HV.out
    clear hV
    subst hVs
    go_wp2_with fail
    refine (unhide C22).mono ?_
    rintro e w8 ⟨rfl, hw8⟩
    rw [hw8]
    clear hw8 C22
    go_upto_region 19 with fail
    have e0 : (w7.alloc (.cells #[.int .u8 (k : Int), .string s] 49)).cell? ⟨w7.heap.size, 0, none⟩ = some (.int .u8 (k : Int)) := by rw [World.cell?_alloc_at _ _ _ _ rfl]; rfl
    have e1 : (w7.alloc (.cells #[.int .u8 (k : Int), .string s] 49)).cell? ⟨w7.heap.size, 1, none⟩ = some (.string s) := by rw [World.cell?_alloc_at _ _ _ _ rfl]; rfl
    have e2 : (w7.alloc (.cells #[.int .u8 (k : Int), .string s] 49)).cell? ⟨w3.heap.size, idx + 1, none⟩ = some (.int .i64 (Q : Int)) := cell_alloc hpe _
    have e3 : (w7.alloc (.cells #[.int .u8 (k : Int), .string s] 49)).cell? ⟨w5.heap.size + 1, 0, none⟩ = some (.slice ab2 lb lb) := cell_alloc hbb7 _
    have E4 := hide (HV.out.alloc (.cells #[.int .u8 (k : Int), .string s] 49))
    have E5 := hide ((own_holds Hbe7.out).alloc (.cells #[.int .u8 (k : Int), .string s] 49))
    have E6 := hide ((own_holds Ho7.out).alloc (.cells #[.int .u8 (k : Int), .string s] 49))
    have hB8 : Below w.heap.size w (w7.alloc (.cells #[.int .u8 (k : Int), .string s] 49)) := hB7.alloc hB7.size _
    generalize w7.heap.size = W7 at *
    generalize (w7.alloc (.cells #[.int .u8 (k : Int), .string s] 49)) = w8 at *
    clear hbb7 hfb7 hB7 Hpl7 Hit7 HT7 Ho7 Hbe7 Hap7 HV hpc hpe ci0 ci1
    have hne1 : ((k : Int) != (k : Int)) = false := by simp
    have hne2 : ((Q : Int) != (Q : Int)) = false := by simp
    go_wp2_with fail
    refine (sameText_any _ s w8 E4.out (by omega)).mono ?_
    rintro e w9 ⟨rfl, nq, rfl⟩
    have hb1 : (ab2.isNone != ab2.isNone) = false := by simp
    have hb2 : ((lb : Int) != (lb : Int)) = false := by simp
    have hQ3 : (Q : Int) ≤ 16777216 := by omega
    have HTEST := hide (show (((Q : Int) - (s.size : Int)) / 65536 == ((Q : Int) - 1) / 65536) = true ∨ s.size = 0 by
      rcases hIB with h | h
      · exact Or.inr h
      · by_cases h0 : s.size = 0
        · exact Or.inr h0
        · left
          have h2 := HEND.out
          unfold InBlock at h
          rw [beq_iff_eq]
          omega)
    clear hIB
    have HTT : Hid ((((s.size : Int) == 0) = true ∧ True) ∨ ((s.size : Int) == 0) = false ∧ (((Q : Int) - (s.size : Int)) / 65536 == ((Q : Int) - 1) / 65536) = true) := by
      by_cases h0 : s.size = 0
      · exact Or.inl ⟨beq_iff_eq.2 (by omega), trivial⟩
      · exact Or.inr ⟨beq_eq_false_iff_ne.2 (by omega), HTEST.out.resolve_right h0⟩
    clear HTEST
    by_cases hl0 : lb = 0
    · subst hl0
      rcases HTT.out with ⟨ht0, ht1⟩ | ⟨ht0, ht1⟩
      all_goals
        go_wp2_with fail
        go_quiet (fail)
        go_wp2_with fail
        refine (sameBytes_any _ _ L _ (E6.out.drewN _) (E5.out.drewN _) 0 hLl (by omega)).mono ?_
        rintro e w10 ⟨rfl, nq2, rfl⟩
        go_wp2_with fail
        go_ret
        exact ⟨rfl, below_drewN hB8 _⟩
    · obtain ⟨g2, o2, rfl⟩ : ∃ g2 o2, ab2 = some ⟨g2, o2, none⟩ := by
        rcases E6.out with ⟨h, _⟩ | ⟨g, o, c', hv, _⟩
        · subst h; simp at hLl; omega
        · simp only [Value.slice.injEq] at hv
          exact ⟨g, o, hv.1⟩
      obtain ⟨m, rfl⟩ : ∃ m, lb = m + 1 := ⟨lb - 1, by omega⟩
      have hnp := fun W : World => run_neq_ptr W ⟨g2, o2, none⟩
      rcases HTT.out with ⟨ht0, ht1⟩ | ⟨ht0, ht1⟩
      all_goals
        go_wp2_with fail
        go_quiet (fail)
        go_wp2_with fail
        refine (sameBytes_any _ _ L _ (E6.out.drewN _) (E5.out.drewN _) (m + 1) hLl (by omega)).mono ?_
        rintro e w10 ⟨rfl, nq2, rfl⟩
        go_wp2_with fail
        go_ret
        exact ⟨rfl, below_drewN hB8 _⟩
  · have hs0 : 0 < (bs s).length := by omega
    have hIB2 : ¬ InBlock (P + hdr (bs s).length) (bs s).length := fun h => hIB (Or.inr h)
    have C22 := hide (zzlong_join w5.heap.size gb cc gs (fl l) N P k (w5.heap.size + 1) (bs s) w7 HT7.out (by omega) hkk HE.out (by have := HPN.out; omega) hs0 hIB2 (.slice ab2 lb lb) lb (bc L) hbb7 hfb7 Ho7.out Hap7.out)
    rw [← HPN.out] at C22
    rw [bs_len] at C22 hs0 hIB2
    clear hIB
    go_wp2_with fail
    refine (unhide C22).mono ?_
    rintro e w8 ⟨G, C, rfl, a1, a2, a3, a4⟩
    have hk5 : ∀ k, (Value.slice ab2 lb lb).ownBlock = some k → w1.heap.size ≤ k ∧ k < w2.heap.size := hk2
    have f0 := a4.cell ci0 (by show w.heap.size ≠ _; omega) (fun h => by have := hk2 _ h; simp at this; omega)
    have f1 := a4.cell ci1 (by show w.heap.size ≠ _; omega) (fun h => by have := hk2 _ h; simp at this; omega)
    have f2 := a4.cell hpe (by show w3.heap.size ≠ _; omega) (fun h => by have := hk2 _ h; simp at this; omega)
    have hB8 : Below w.heap.size w w8 := Chg.below hB7 a4 hB7.size (by omega) (fun G hG => by have := hk2 G hG; omega)
    have HH := hide (own_holds a2)
    clear C22 a2 a3 a4 hbb7 hfb7 hB7 Hpl7 Hit7 HT7 Ho7 Hbe7 Hap7 hpc hpe ci0 ci1
    go_upto_region 19 with fail
    have e0 : (w8.alloc (.cells #[.int .u8 (k : Int), .string s] 49)).cell? ⟨w8.heap.size, 0, none⟩ = some (.int .u8 (k : Int)) := by rw [World.cell?_alloc_at _ _ _ _ rfl]; rfl
    have e1 : (w8.alloc (.cells #[.int .u8 (k : Int), .string s] 49)).cell? ⟨w8.heap.size, 1, none⟩ = some (.string s) := by rw [World.cell?_alloc_at _ _ _ _ rfl]; rfl
    have e2 : (w8.alloc (.cells #[.int .u8 (k : Int), .string s] 49)).cell? ⟨w3.heap.size, idx + 1, none⟩ = some (.int .i64 (Q : Int)) := cell_alloc f2 _
    have e3 := cell_alloc a1 (.cells #[.int .u8 (k : Int), .string s] 49)
    have E4 := hide (HH.out.alloc (.cells #[.int .u8 (k : Int), .string s] 49))
    have hB9 : Below w.heap.size w (w8.alloc (.cells #[.int .u8 (k : Int), .string s] 49)) := hB8.alloc hB8.size _
    generalize w8.heap.size = W8 at *
    generalize (w8.alloc (.cells #[.int .u8 (k : Int), .string s] 49)) = w9 at *
    clear hB8 HH f0 f1 f2 a1
    have hne1 : ((k : Int) != (k : Int)) = false := by simp
    have hne2 : ((Q : Int) != (Q : Int)) = false := by simp
    go_wp2_with fail
    refine (sameText_any _ s w9 E4.out (by omega)).mono ?_
    rintro e w10 ⟨rfl, nq, rfl⟩
    have hQ3 : (Q : Int) ≤ 16777216 := by omega
    have ht0 : ((s.size : Int) == 0) = false := beq_eq_false_iff_ne.2 (by omega)
    have ht1 : (((Q : Int) - (s.size : Int)) / 65536 == ((Q : Int) - 1) / 65536) = false := by
      have h2 := HEND.out
      unfold InBlock at hIB2
      rw [beq_eq_false_iff_ne]
      omega
    go_wp2_with fail
    refine (sameText_any _ s _ (E4.out.drewN _) (by omega)).mono ?_
    rintro e w11 ⟨rfl, nq2, rfl⟩
    go_wp2_with fail
    go_ret
    exact ⟨rfl, below_drewN hB9 _⟩
end Go.Proofs.Qxb6604427a
