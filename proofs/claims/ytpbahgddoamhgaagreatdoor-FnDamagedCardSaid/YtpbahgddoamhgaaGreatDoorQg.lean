/- Part 7 of 12 of the proof: the executor, the walks and the plain laws, in build order. -/
import Derived.Test.YtpbahgddoamhgaaGreatDoorQf
namespace Go.Proofs.YtpbahgddoamhgaaGreatDoor
open Go.Proofs.Tryz
open Go Sx Pu
set_option maxRecDepth 10000

section
variable {P : Program} {n : Nat} {E : El} {H : Hl} {o : Oper}
/-- append to a slice that is full -/
theorem v_appf {t t' e e' : TypeId} {x y : Operand} {z bytes m k cap' : Nat} {zv : Value} {px py : Option Addr} {xs ys : List Value} {ti : TypeInfo}
    (ho : o.op = .call ⟨.builtin .append, #[x, y], #[t, t']⟩) (hu : P.underlying t = some (.slice e)) (hu' : P.underlying t' = some (.slice e')) (hz : ∀ w, (sizeOf e).run P w = .ok z w)
    (hti : ∀ w, (typeInfo e).run P w = .ok ti w) (hby : ti.bytes = bytes) (hzv : ∀ w, (zeroValue e).run P w = .ok zv w) (_hzs : zv.cells.size = z)
    (hx : ev E x = some (.slice px m m)) (hy : ev E y = some (.slice py k cap')) (hrx : Rd z px xs m H) (hrd : Rd z py ys k H) (hlen : (2 * (m + k) + 1000) * bytes ≤ 2 ^ 48) (hlen2 : m + k < 2 ^ 62) :
    OS P n E H o (fun v' H' => (k = 0 ∧ v' = .slice px m m ∧ H' = H) ∨ ∃ b rest cap2, v' = .slice (some ⟨b, 0, none⟩) (m + k) cap2 ∧ m + k ≤ cap2 ∧ H' = (b, .cells (List.toArray (xs ++ ys ++ rest)) e (0, 0)) :: H) := fun O F a w hag hp => by
  have hy' := ev_sound hag hy; have hx' := ev_sound hag hx; have hyl := hrd.1; have hxl := hrx.1; have hfy := run_firstCells (P := P) (cap := cap') hp hrd; have room : m < m + k → ¬ Builtin.nextslicecap (m + k) m * bytes > 2 ^ 48 := fun hc => by
    have := Nat.mul_le_mul_right bytes (nextcap_le hc); omega
  have big : ¬ (9223372036854775807 < ((m + k : Nat) : Int) ∧ bytes = 0) := by omega
  by_cases hk : k = 0
  · subst hk; have hyn : ys = [] := List.length_eq_zero_iff.1 (by simpa using hyl); subst hyn; refine ⟨.slice px m m, w, H, .inl ?_, .inl ⟨rfl, rfl, rfl⟩, hp⟩
    cases px with
    | none => simp [execOp, ho, hx', hy', resolve, invoke, builtin, Builtin.append_, underlying, hu, hu', hz, Builtin.lenOf, hfy]
    | some q => simp [execOp, ho, hx', hy', resolve, invoke, builtin, Builtin.append_, underlying, hu, hu', hz, Builtin.lenOf, hfy, storeCells]
  · have hp1 : Hp O w.drew (H ++ F) := ⟨hp.os, hp.out, hp.nd, hp.has⟩; have hfy1 : (Builtin.firstCells z k (.slice py k cap')).run P w.drew = .ok ys.toArray w.drew := run_firstCells hp1 hrd; have hfx : (Builtin.firstCells z m (.slice px m m)).run P w.drew = .ok xs.toArray w.drew := run_firstCells hp1 hrx; obtain ⟨nc, hnc, hge⟩ : ∃ nc, Question.cut (.appendCap (m + k) m e) (w.tape w.drawn (.appendCap (m + k) m e)) = nc ∧ m + k ≤ nc := ⟨_, rfl, by simp only [Question.cut]; omega⟩; have r0 := room (by omega); have hnr : ¬ (m + k ≤ m) := by omega
    let cells : Array Value := xs.toArray ++ ys.toArray ++ Builtin.zeroCells zv.cells (nc - (m + k))
    refine ⟨.slice (some ⟨w.drew.heap.size, 0, none⟩) (m + k) nc, w.drew.alloc (.cells cells e), (w.drew.heap.size, .cells cells e) :: H, .inl ?_, .inr ⟨w.drew.heap.size, (Builtin.zeroCells zv.cells (nc - (m + k))).toList, nc, rfl, hge, by simp [cells]⟩, hp1.cons rfl⟩
    cases px with
    | none =>
      simp [execOp, ho, hx', hy', resolve, invoke, builtin, Builtin.append_, underlying, hu, hu', hz, Builtin.lenOf, hnr, hti, hby, r0, Question.forced, hnc, hzv, hfx, hfy1, newRow, cells]
      try (intro h1 h2; exfalso; omega)
    | some q =>
      simp [execOp, ho, hx', hy', resolve, invoke, builtin, Builtin.append_, underlying, hu, hu', hz, Builtin.lenOf, hnr, hti, hby, r0, Question.forced, hnc, hzv, hfx, hfy1, newRow, cells]
      try (intro h1 h2; exfalso; omega)
end
namespace Pu
/-- the symbols that are used -/
def tsel (U : List Nat) (i : Nat) : List Nat := (List.range i).filter fun s => U.getD s 0 == 1
/-- the first few of a tree have 1, 2, .. bits -/
def tskew (V : List Int) (most : Nat) : Nat → List Nat × List Nat × Nat × Nat → List Nat × List Nat × Nat × Nat
  | 0, st => st
  | k + 1, st => if 1 < st.2.1.length ∧ st.2.2.1 < most - 9 then
      tskew V most k (st.1.set (st.2.1.getD (nxt V st.2.2.2 st.2.1.length) 0) (st.2.2.1 + 1), st.2.1.take (nxt V st.2.2.2 st.2.1.length) ++ st.2.1.drop (nxt V st.2.2.2 st.2.1.length + 1), st.2.2.1 + 1, st.2.2.2 + 1)
    else st
def tdeep (n : Nat) : Nat → Nat → Nat
  | 0, d => d
  | k + 1, d => if 2 ^ d < n then tdeep n k (d + 1) else d
def tfill (q short : Nat) : List Nat → Nat → List Nat → List Nat
  | [], _, out => out
  | s :: r, i, out => tfill q short r (i + 1) (out.set s (if i < short then q - 1 else q))
def tree2 (st : List Nat × List Nat × Nat × Nat) : List Nat × Nat :=
  let d := tdeep st.2.1.length 10 0
  let out := tfill (st.2.2.1 + d) (2 ^ d - st.2.1.length) st.2.1 0 st.1
  (if st.2.2.1 = 0 ∧ st.2.1.length = 1 then out.set (st.2.1.getD 0 0) 1 else out, st.2.2.2)
/-- a code for the symbols that are used, and the choices' place behind it -/
def tree (U : List Nat) (V : List Int) (at_ most : Nat) : List Nat × Nat :=
  tree2 (tskew V most (nxt V at_ 5) (List.replicate U.length 0, tsel U U.length, 0, at_ + 1))
theorem tsel_lt {U : List Nat} {i s : Nat} (h : s ∈ tsel U i) : s < i := List.mem_range.1 (List.mem_filter.1 h).1
theorem tsel_len (U : List Nat) (i : Nat) : (tsel U i).length ≤ i := by
  have := List.length_filter_le (fun s => U.getD s 0 == 1) (List.range i); rwa [List.length_range] at this
theorem tsel_succ (U : List Nat) (i : Nat) : tsel U (i + 1) = if U.getD i 0 == 1 then tsel U i ++ [i] else tsel U i := by
  unfold tsel; rw [List.range_succ, List.filter_append]
  split
  · rename_i h; rw [List.filter_cons_of_pos (p := fun s => U.getD s 0 == 1) h, List.filter_nil]
  · rename_i h; rw [List.filter_cons_of_neg (p := fun s => U.getD s 0 == 1) h, List.filter_nil, List.append_nil]
/-- what holds while a tree is made -/
structure TSt (m : Nat) (st : List Nat × List Nat × Nat × Nat) : Prop where
  ol : st.1.length = m
  lt : ∀ s ∈ st.2.1, s < m
  ll : st.2.1.length ≤ m
  o15 : ∀ x ∈ st.1, x ≤ 4
  l4 : st.2.2.1 ≤ 4
theorem TSt.step {m : Nat} {out l : List Nat} {g a j : Nat} (h : TSt m (out, l, g, a)) (hg : g < 4) : TSt m (out.set (l.getD j 0) (g + 1), l.take j ++ l.drop (j + 1), g + 1, a + 1) := by
  refine ⟨by rw [List.length_set]; exact h.ol, fun s hs => ?_, ?_, fun x hx => ?_, by simp only; omega⟩
  · rcases List.mem_append.1 hs with h1 | h1
    · exact h.lt s (List.mem_of_mem_take h1)
    · exact h.lt s (List.mem_of_mem_drop h1)
  · have := h.ll; simp only [List.length_append, List.length_take, List.length_drop] at this ⊢; omega
  · rcases mem_set hx with h1 | h1
    · exact h.o15 x h1
    · omega
theorem tdeep_bd {n : Nat} (hn : n ≤ 512) : ∀ k d, d ≤ 9 → 9 < k + d → (tdeep n k d ≤ 9 ∧ n ≤ 2 ^ tdeep n k d)
  | 0, d, h, h2 => by omega
  | k + 1, d, h, h2 => by
    rw [tdeep]
    split
    · rename_i h1; have : d ≠ 9 := fun e => by subst e; omega
      exact tdeep_bd hn k (d + 1) (by omega) (by omega)
    · rename_i h1; exact ⟨h, by omega⟩
theorem tfill_len (q short : Nat) : ∀ (l : List Nat) (i : Nat) (out : List Nat), (tfill q short l i out).length = out.length
  | [], _, _ => rfl
  | s :: r, i, out => by rw [tfill, tfill_len q short r]; exact List.length_set
theorem tfill_mem {q short b : Nat} (hq : q ≤ b) : ∀ (l : List Nat) (i : Nat) (out : List Nat), (∀ x ∈ out, x ≤ b) → ∀ x ∈ tfill q short l i out, x ≤ b
  | [], _, _, h => h
  | s :: r, i, out, h => tfill_mem hq r _ _ fun x hx => by
    rcases mem_set hx with h1 | h1
    · exact h x h1
    · rw [h1]; split <;> omega
theorem tskew_st {V : List Int} {most m : Nat} : ∀ k st, TSt m st → k + st.2.2.1 ≤ 4 → TSt m (tskew V most k st) ∧ st.2.2.2 ≤ (tskew V most k st).2.2.2 ∧ (tskew V most k st).2.2.2 ≤ st.2.2.2 + k
  | 0, st, h, _ => ⟨h, Nat.le_refl _, Nat.le_refl _⟩
  | k + 1, (out, l, g, a), h, hk => by
    rw [tskew]
    split
    · rename_i h1; dsimp only at h1 hk ⊢; have h2 := tskew_st (V := V) (most := most) k _ (h.step (j := nxt V a l.length) (show g < 4 by omega)) (by dsimp only; omega); exact ⟨h2.1, by have := h2.2.1; dsimp only at this; omega, by have := h2.2.2; dsimp only at this; omega⟩
    · exact ⟨h, Nat.le_refl _, by dsimp only; omega⟩
theorem tree2_ok {m : Nat} {st : List Nat × List Nat × Nat × Nat} (h : TSt m st) (hm : m ≤ 320) : (tree2 st).1.length = m ∧ (∀ x ∈ (tree2 st).1, x ≤ 13) := by
  have hd := tdeep_bd (n := st.2.1.length) (by have := h.ll; omega) 10 0 (by decide) (by decide); have hl4 := h.l4; have hf := tfill_mem (q := st.2.2.1 + tdeep st.2.1.length 10 0) (short := 2 ^ tdeep st.2.1.length 10 0 - st.2.1.length) (b := 13) (by omega) st.2.1 0 st.1 (fun x hx => by have := h.o15 x hx; omega); have hl := tfill_len (st.2.2.1 + tdeep st.2.1.length 10 0) (2 ^ tdeep st.2.1.length 10 0 - st.2.1.length) st.2.1 0 st.1; unfold tree2; dsimp only
  split
  · refine ⟨by rw [List.length_set, hl]; exact h.ol, fun x hx => ?_⟩; rcases mem_set hx with h1 | h1
    · exact hf x h1
    · omega
  · exact ⟨by rw [hl]; exact h.ol, hf⟩
end Pu

theorem rdV_take {f : Nat → Value} {p : Option Addr} {T : List Nat} {D : Hl} {k : Nat} (h : DatV f p T D) (hk : k ≤ T.length) : Rd 1 p ((T.take k).map f) k D := by
  refine ⟨by rw [List.length_map, List.length_take]; omega, fun hk0 => ?_⟩; obtain ⟨b, off, c, ty, fz, r, h1, h2, h3⟩ := h (by intro e; subst e; simp at hk; omega); refine ⟨b, off, c, ty, fz, r, h1, h2, fun i hi => ?_⟩; rw [h3 i (by omega), List.getElem?_map, List.getElem?_take, if_pos (by omega), List.getElem?_eq_getElem (by omega)]; rfl
theorem rdV_drop {f : Nat → Value} {p : Option Addr} {T : List Nat} {D : Hl} {k m : Nat} (h : DatV f p T D) (hm : T.length ≤ m) : Rd 1 (pmv p m k 1) ((T.drop k).map f) (T.length - k) D := by
  have h2 := (DatV.sub (l := k) (u := T.length) (m := m) h (Nat.le_refl _) hm).rd; rwa [List.take_length, List.length_drop] at h2
theorem DatV.take' {f : Nat → Value} {b off : Nat} {T : List Nat} {D : Hl} {k : Nat} (h : DatV f (some ⟨b, off, none⟩) T D) (hk : k ≤ T.length) : DatV f (some ⟨b, off, none⟩) (T.take k) D := by
  have h2 := DatV.sub (l := 0) (u := k) (m := k) h hk (Nat.le_refl _); rwa [pmv_zero, List.drop_zero] at h2
/-- bytes that tell whether something is used -/
def bf (n : Nat) : Value := .bool (n == 1)
section
variable {D : Hl} {cb at_ most capl capu : Nat} {pl pu : Option Addr} {V : List Int} {U : List Nat}
set_option maxHeartbeats 4000000 in
theorem tree_spec (hd : DatV bf pu U D) (hU : 0 < U.length) (hU2 : U.length ≤ 320) (hz : DatZ pl V D) (hV : ZW V) (hvl : V.length < 2 ^ 62) (ha : at_ < 2 ^ 60) (hm : most ≤ 15) :
    CallsL Tryz.prog 48 #[.slice pu U.length capu, .pointer (some ⟨cb, 0, none⟩), iV most] ((cb, chO pl V.length capl at_) :: D) fun v H' => ∃ ob G, v = .slice (some ⟨ob, 0, none⟩) U.length U.length ∧
      H' = G ++ ((ob, .cells (List.toArray ((tree U V at_ most).1.map iV)) 3 (0, 0)) :: (cb, chO pl V.length capl (tree U V at_ most).2) :: D) := by
  obtain ⟨n, hn⟩ : ∃ n, U.length = n := ⟨_, rfl⟩; have htr : tree2 (tskew V most (nxt V at_ 5) (List.replicate n 0, tsel U n, 0, at_ + 1)) = tree U V at_ most := by unfold tree; rw [hn]
  have hn5 := nxt_lt V at_ (most := 5) (by decide); rw [hn] at hU hU2 ⊢; obtain ⟨b2, off, c, ty, fz, r, rfl, hat, hcc⟩ := hd (by intro e; subst e; simp at hn; omega); have hga : ∀ j, j < n → c[off + j]? = some (bf (U.getD j 0)) := fun j hj => by rw [hcc j (by omega), getD_in (by omega)]
  refine CallsL_of func48 rfl ntmps48 rfl ?_
  try dsimp only [initE, Nat.zero_add]
  refine W_seq fun K1 hK1 => ?_; refine W_region ?_; refine xa rfl rfl ?_; refine WO_nil (sq_n (hK1 _ _ ?_)); refine W_seq fun K2 hK2 => ?_; refine W_region ?_; refine xm rfl rfl ?_; refine xp (v_len rfl underlying105 rfl) rfl ?_; refine ws (v_mk (bytes := 8) rfl underlying23 sizeOf3 typeInfo3 rfl zeroValue3 rfl rfl (by omega) (by omega) rfl rfl) rfl rfl rfl ?_; rintro _ _ ⟨ob, rfl, rfl, _⟩; refine xa rfl rfl ?_; refine WO_nil (sq_n (hK2 _ _ ?_)); refine W.keep [0,1,2,6,7] rfl ?_; refine W_seq fun K3 hK3 => ?_; refine W_region ?_; refine xa rfl rfl ?_; refine WO_nil (sq_n (hK3 _ _ ?_)); refine W_seq fun K4 hK4 => ?_; refine W_seq fun K5 hK5 => ?_; refine W_region ?_; refine xm rfl rfl ?_; refine xp (v_len rfl underlying105 rfl) rfl ?_; refine xm rfl rfl ?_; refine WO_nil (sq_n (hK5 _ _ ?_)); refine W_block ?_
  refine W_loop (fun m E H => ∃ i p2 c2 Hs, i ≤ n ∧ m = n - i ∧ OwnV iV 3 p2 c2 (tsel U i) Hs ∧ Sub E [(1, .pointer (some ⟨cb, 0, none⟩)), (2, iV most), (7, .slice (some ⟨ob, 0, none⟩) n n), (8, .slice p2 (tsel U i).length c2), (21, .slice (some ⟨b2, off, none⟩) n capu), (22, iV n), (23, iV i)] ∧ H = Hs ++ ((ob, .cells (List.toArray ((List.replicate n 0).map iV)) 3 (0, 0)) :: (cb, chO pl V.length capl at_) :: D)) (m := _) (⟨0, none, 0, [], by omega, rfl, OwnV.nil, ⟨rfl, rfl, rfl, rfl, rfl, rfl, rfl, trivial⟩, by rw [List.map_replicate]; rfl⟩) ?_; rintro m E H ⟨i, p2, c2, Hs, hi, rfl, hO, hE, rfl⟩; refine W.env hE ?_; have htl := tsel_len U i; refine W_seq fun K6 hK6 => ?_; refine W_region ?_; refine xp (n_lt rfl rfl rfl) rfl ?_; refine WO_nil (sq_n (hK6 _ _ ?_)); refine W_seq fun K7 hK7 => ?_; refine W_cond rfl (fun hc0 => ?_) (fun hc0 => ?_)
  · replace hc0 := of_decide_eq_true hc0; refine W_skip (sq_n (hK7 _ _ ?_)); refine W_seq fun K8 hK8 => ?_; refine W_block ?_; refine W_seq fun K9 hK9 => ?_; refine W_region ?_; refine xm rfl rfl ?_; refine xp (v_ixs rfl underlying105 sizeOf4 rfl rfl (by omega)) rfl ?_; refine xv (v_ld rfl rfl isAgg4 (hga i hc0)) rfl ?_; refine xa rfl rfl ?_; refine xa rfl rfl ?_; refine WO_nil (sq_n (hK9 _ _ ?_)); refine W_seq fun K10 hK10 => ?_; refine W_region ?_; refine xm rfl rfl ?_; refine WO_nil (sq_n (hK10 _ _ ?_)); refine W_cond rfl (fun hc1 => ?_) (fun hc1 => ?_)
    · refine W_region ?_; refine xm rfl rfl ?_; refine xm rfl rfl ?_; refine wapp1 (bytes := 8) underlying23 sizeOf3 typeInfo3 rfl zeroValue3 rfl hO rfl (fun _ => rfl) (by omega) (by decide) rfl rfl (c := i) rfl rfl rfl rfl rfl rfl rfl (fun _ => rfl) (fun _ => rfl) ?_; intro vb p3 c3 Hs3 hO2; refine xa rfl rfl ?_; refine WO_nil (bl_n (sq_n (hK8 _ _ ?_))); refine W_region ?_; refine xp (n_add rfl rfl rfl kI (by omega)) rfl ?_; refine xm rfl rfl ?_; refine WO_nil (sq_n (?_)); first
      | (have hq := hc1; have hq2 := hO2; exact ⟨n - (i + 1), by omega, i + 1, p3, c3, Hs3, by omega, rfl, by rw [tsel_succ, if_pos hq]; exact hO2, ⟨rfl, rfl, rfl, by rw [tsel_succ, if_pos hq]; rfl, rfl, rfl, rfl, trivial⟩, rfl⟩)
      | (have hq : ¬ (U.getD i 0 == 1) = true := by rw [hc1]; decide
         exact ⟨n - (i + 1), by omega, i + 1, p2, c2, Hs, by omega, rfl, by rw [tsel_succ, if_neg hq]; exact hO, ⟨rfl, rfl, rfl, by rw [tsel_succ, if_neg hq]; rfl, rfl, rfl, rfl, trivial⟩, rfl⟩)
    · refine W_skip (bl_n (sq_n (hK8 _ _ ?_))); refine W_region ?_; refine xp (n_add rfl rfl rfl kI (by omega)) rfl ?_; refine xm rfl rfl ?_; refine WO_nil (sq_n (?_)); first
      | (have hq := hc1; have hq2 := hO2; exact ⟨n - (i + 1), by omega, i + 1, p3, c3, Hs3, by omega, rfl, by rw [tsel_succ, if_pos hq]; exact hO2, ⟨rfl, rfl, rfl, by rw [tsel_succ, if_pos hq]; rfl, rfl, rfl, rfl, trivial⟩, rfl⟩)
      | (have hq : ¬ (U.getD i 0 == 1) = true := by rw [hc1]; decide
         exact ⟨n - (i + 1), by omega, i + 1, p2, c2, Hs, by omega, rfl, by rw [tsel_succ, if_neg hq]; exact hO, ⟨rfl, rfl, rfl, by rw [tsel_succ, if_neg hq]; rfl, rfl, rfl, rfl, trivial⟩, rfl⟩)
  · replace hc0 := of_decide_eq_false hc0; obtain rfl : i = n := by omega
    refine W_exit (sq_x (sq_x (bl_x (sq_n (hK4 _ _ ?_))))); refine W.keep [1,2,7,8] rfl ?_; refine W_seq fun K11 hK11 => ?_; obtain ⟨l0, hl0⟩ : ∃ l0, tsel U i = l0 := ⟨_, rfl⟩; have hst0 : TSt i (List.replicate i 0, l0, 0, at_ + 1) := ⟨List.length_replicate, fun s hs => by rw [← hl0] at hs; exact tsel_lt hs, by rw [← hl0]; exact htl, fun x hx => by rw [(List.mem_replicate.1 hx).2]; decide, Nat.zero_le _⟩; rw [hl0] at hO htr htl ⊢; have hdl := hO.dat; have hcl := hO.capl; refine W_region ?_; refine xa rfl rfl ?_; refine WO_nil (sq_n (hK11 _ _ ?_)); refine W_seq fun K12 hK12 => ?_; refine W_seq fun K13 hK13 => ?_; refine W_region ?_; refine xm rfl rfl ?_; refine wc (e_c rfl rfl rfl call30) rfl rfl rfl (next_spec hz hV (by decide) (by decide) (by omega) hvl) (.app (.skip .all)) ?_; rintro _ _ ⟨rfl, rfl⟩; (try simp only [ap4]); refine xa rfl rfl ?_; refine WO_nil (sq_n (hK13 _ _ ?_))
    refine W_block ?_; refine W_loop (fun m E H => ∃ k out l g a pq c2 G, tree2 (tskew V most k (out, l, g, a)) = tree U V at_ most ∧ k = m ∧ k + g ≤ 4 ∧ a = at_ + 1 + g ∧ TSt i (out, l, g, a) ∧ DatI pq l G ∧ l.length ≤ c2 ∧ Sub E [(1, .pointer (some ⟨cb, 0, none⟩)), (2, iV most), (7, .slice (some ⟨ob, 0, none⟩) i i), (8, .slice pq l.length c2), (11, iV g), (12, iV k)] ∧ H = G ++ ((ob, .cells (List.toArray (out.map iV)) 3 (0, 0)) :: (cb, chO pl V.length capl a) :: D)) (m := _) (⟨nxt V at_ 5, List.replicate i 0, l0, 0, at_ + 1, p2, c2, Hs, htr, rfl, by omega, rfl, hst0, hdl, hcl, ⟨rfl, rfl, rfl, rfl, rfl, rfl, trivial⟩, rfl⟩) ?_; clear hO hdl hcl hst0 htl htr hn5; rintro m E H ⟨k, out, l, g, a, pq, c2, G, htr, rfl, hkg, rfl, hst, hdl, hcl, hE, rfl⟩; refine W.env hE ?_; have hol := hst.ol; have hll := hst.ll; dsimp only at hol hll; refine W_seq fun K14 hK14 => ?_
    refine W_seq fun K15 hK15 => ?_; by_cases hk1 : 0 < k
    · by_cases hk2 : 1 < l.length
      · by_cases hk3 : g < most - 9
        · refine W_region ?_; refine xm rfl rfl ?_; refine xp (v_gt rfl rfl rfl (dT (by omega))) rfl ?_; refine xm rfl rfl ?_; refine xm rfl rfl ?_; refine xp (v_len rfl underlying23 rfl) rfl ?_; refine xp (v_gt rfl rfl rfl (dT (by omega))) rfl ?_; refine xp (v_pt rfl rfl rfl) rfl ?_; refine xm rfl rfl ?_; refine xm rfl rfl ?_; refine xm rfl rfl ?_; refine xp (v_sub rfl rfl rfl (r := (most : Int) - 9) (wrapI (by omega) (by omega))) rfl ?_; refine xp (v_lt rfl rfl rfl (dT (by omega))) rfl ?_; refine xp (v_pt rfl rfl rfl) rfl ?_; refine WO_nil (sq_n (hK15 _ _ ?_)); refine W_cond_t rfl ?_; refine W_skip (sq_n (hK14 _ _ ?_))
          refine W_seq_mid (fun E H => ∃ j p5 c5 G5, j = nxt V (at_ + 1 + g) l.length ∧ j < l.length ∧ DatI p5 (l.take j ++ l.drop (j + 1)) G5 ∧ l.length - 1 ≤ c5 ∧ Sub E [(1, .pointer (some ⟨cb, 0, none⟩)), (2, iV most), (7, .slice (some ⟨ob, 0, none⟩) i i), (8, .slice p5 (l.length - 1) c5), (11, iV (g + 1)), (12, iV k)] ∧ H = G5 ++ ((ob, .cells (List.toArray ((out.set (l.getD j 0) (g + 1)).map iV)) 3 (0, 0)) :: (cb, chO pl V.length capl (at_ + 1 + g + 1)) :: D)) ?_ ?_
          · refine W_block ?_; refine W_seq fun K17 hK17 => ?_; refine W_region ?_; refine xm rfl rfl ?_; refine xm rfl rfl ?_; refine xp (v_len rfl underlying23 rfl) rfl ?_; refine wc (e_c rfl rfl rfl call30) rfl rfl rfl (next_spec hz hV (by omega) (by omega) (by omega) hvl) (.app (.skip .all)) ?_; rintro _ _ ⟨rfl, rfl⟩; obtain ⟨j, hj⟩ : ∃ j, nxt V (at_ + 1 + g) l.length = j := ⟨_, rfl⟩; have hjl : j < l.length := by rw [← hj]; exact nxt_lt _ _ (by omega)
            rw [hj]; (try simp only [ap4]); refine xa rfl rfl ?_; refine WO_nil (sq_n (hK17 _ _ ?_)); refine W_seq fun K18 hK18 => ?_; refine W_region ?_; refine xm rfl rfl ?_; refine xp (n_add rfl rfl rfl kI (by omega)) rfl ?_; refine xa rfl rfl ?_; refine WO_nil (sq_n (hK18 _ _ ?_)); refine W_seq fun K19 hK19 => ?_; obtain ⟨b3, off3, c3, ty3, fz3, r3, rfl, hat3, hcc3⟩ := hdl (by intro e; subst e; simp at hjl); have hat4 := AtH.appl (D := (ob, .cells (List.toArray (out.map iV)) 3 (0, 0)) :: (cb, chO pl V.length capl (at_ + 1 + g + 1)) :: D) hat3; have hgj : l.getD j 0 < i := by rw [getD_in hjl]; exact hst.lt _ (List.getElem_mem hjl)
            refine W_region ?_; refine xm rfl rfl ?_; refine xm rfl rfl ?_; refine xm rfl rfl ?_; refine xp (v_ixs rfl underlying23 sizeOf3 rfl rfl (by omega)) rfl ?_; refine xv (v_ld rfl rfl isAgg3 (v := iV (l.getD j 0)) (by rw [hcc3 j hjl, getD_in hjl])) rfl ?_; refine xm rfl rfl ?_; refine xp (v_ixs rfl underlying23 sizeOf3 rfl rfl (by omega)) rfl ?_; refine wst' rfl rfl rfl sizeOf3 rfl (List.map_set (f := iV)).symm (by rw [List.length_map]; omega) rfl rfl ?_; refine WO_nil (sq_n (hK19 _ _ ?_)); refine W_draw mixed ?_; refine WA_k (fuel := 2) [0,1,2,3,4,5,6,7] rfl (by kernel_rfl) ?_; refine ym rfl rfl rfl ?_; refine ym rfl rfl rfl ?_; refine ym rfl rfl rfl ?_; refine yp rfl (v_slp rfl underlying23 sizeOf3 rfl (.some rfl) (.some rfl) .none (by omega) (by omega) (by omega) (by decide)) rfl ?_; refine ym rfl rfl rfl ?_; refine ym rfl rfl rfl ?_
            refine yp rfl (n_add rfl rfl rfl kI (by omega)) rfl ?_; refine yp rfl (v_slp rfl underlying23 sizeOf3 rfl .none .none (.some rfl) (by omega) (by omega) (by omega) (by decide)) rfl ?_; refine WK_nil ?_; refine WA_one (k := 8) rfl (by kernel_rfl) ?_; rw [pmv_zero]; refine ws (v_appf (bytes := 8) (m := j) (k := l.length - (j + 1)) rfl underlying23 underlying23 sizeOf3 typeInfo3 rfl zeroValue3 rfl rfl rfl (rdV_take (hdl.appl _) (by omega)) (rdV_drop (hdl.appl _) hcl) (by omega) (by omega)) rfl rfl rfl ?_; rintro _ _ (⟨hk0, rfl, rfl⟩ | ⟨b5, rest5, c5, rfl, hc5, rfl⟩)
            · refine WO_nil (sq_n ?_); refine WA_k (fuel := 0) [9] rfl (by kernel_rfl) ?_; refine yp rfl (v_as rfl rfl) rfl ?_; refine WK_nil ?_; refine WA_nil (by kernel_rfl) (bl_n (sq_n (?_))); first
              | (have hq := hk0
                 have e1 : l.length - 1 = j := by omega
                 refine ⟨j, _, j, G, hj.symm, hjl, ?_, by omega, ⟨rfl, rfl, rfl, by rw [e1]; rfl, rfl, rfl, trivial⟩, rfl⟩; rw [List.drop_eq_nil_of_le (by omega), List.append_nil]; exact DatV.take' hdl (by omega))
              | (have e1 : j + (l.length - (j + 1)) = l.length - 1 := by omega
                 rw [e1] at hc5; refine ⟨j, some ⟨b5, 0, none⟩, c5, _ :: G, hj.symm, hjl, ?_, hc5, ⟨rfl, rfl, rfl, by rw [← e1]; rfl, rfl, rfl, trivial⟩, rfl⟩; rw [← List.map_append]; exact datV_own)
            · refine WO_nil (sq_n ?_); refine WA_k (fuel := 0) [9] rfl (by kernel_rfl) ?_; refine yp rfl (v_as rfl rfl) rfl ?_; refine WK_nil ?_; refine WA_nil (by kernel_rfl) (bl_n (sq_n (?_))); first
              | (have hq := hk0
                 have e1 : l.length - 1 = j := by omega
                 refine ⟨j, _, j, G, hj.symm, hjl, ?_, by omega, ⟨rfl, rfl, rfl, by rw [e1]; rfl, rfl, rfl, trivial⟩, rfl⟩; rw [List.drop_eq_nil_of_le (by omega), List.append_nil]; exact DatV.take' hdl (by omega))
              | (have e1 : j + (l.length - (j + 1)) = l.length - 1 := by omega
                 rw [e1] at hc5; refine ⟨j, some ⟨b5, 0, none⟩, c5, _ :: G, hj.symm, hjl, ?_, hc5, ⟨rfl, rfl, rfl, by rw [← e1]; rfl, rfl, rfl, trivial⟩, rfl⟩; rw [← List.map_append]; exact datV_own)
          · rintro E H ⟨j, p5, c5, G5, hj2, hjl, hd5, hc5, hE, rfl⟩; refine W.env hE ?_; refine W_region ?_; refine xm rfl rfl ?_; refine xp (n_sub rfl rfl rfl kI (by omega) (by omega)) rfl ?_; refine xa rfl rfl ?_; refine WO_nil (sq_n (?_)); skip; obtain ⟨k, rfl⟩ : ∃ j, k = j + 1 := ⟨k - 1, by omega⟩; rw [tskew, if_pos ⟨hk2, hk3⟩] at htr; dsimp only at htr; have hl3 : (l.take j ++ l.drop (j + 1)).length = l.length - 1 := by simp only [List.length_append, List.length_take, List.length_drop]; omega
            rw [← hj2] at htr; exact ⟨k, by omega, k, _, _, g + 1, _, p5, c5, G5, htr, rfl, by omega, by omega, hst.step (by omega), hd5, by omega, ⟨rfl, rfl, rfl, by rw [hl3]; rfl, rfl, rfl, trivial⟩, rfl⟩
        · have hstop : tree2 (out, l, g, at_ + 1 + g) = tree U V at_ most := by
            obtain ⟨k, rfl⟩ : ∃ j, k = j + 1 := ⟨k - 1, by omega⟩; rw [tskew, if_neg (fun h => hk3 h.2)] at htr; exact htr
          refine W_region ?_; refine xm rfl rfl ?_; refine xp (v_gt rfl rfl rfl (dT (by omega))) rfl ?_; refine xm rfl rfl ?_; refine xm rfl rfl ?_; refine xp (v_len rfl underlying23 rfl) rfl ?_; refine xp (v_gt rfl rfl rfl (dT (by omega))) rfl ?_; refine xp (v_pt rfl rfl rfl) rfl ?_; refine xm rfl rfl ?_; refine xm rfl rfl ?_; refine xm rfl rfl ?_; refine xp (v_sub rfl rfl rfl (r := (most : Int) - 9) (wrapI (by omega) (by omega))) rfl ?_; refine xp (v_lt rfl rfl rfl (dF (by omega))) rfl ?_; refine xp (v_pt rfl rfl rfl) rfl ?_; refine WO_nil (sq_n (hK15 _ _ ?_)); refine W_cond_f rfl ?_; refine W_exit (sq_x (sq_x (bl_x (sq_n (hK12 _ _ ?_))))); refine W.keep [7,8,11] rfl ?_; refine W_seq fun K20 hK20 => ?_; refine W_region ?_; refine xa rfl rfl ?_; refine WO_nil (sq_n (hK20 _ _ ?_)); refine W_seq fun K21 hK21 => ?_; refine W_block ?_
          refine W_loop (fun m E H => ∃ d k2, k2 + d = 10 ∧ k2 = m ∧ d ≤ 9 ∧ tdeep l.length k2 d = tdeep l.length 10 0 ∧ Sub E [(7, .slice (some ⟨ob, 0, none⟩) i i), (8, .slice pq l.length c2), (11, iV g), (14, iV d)] ∧ H = G ++ ((ob, .cells (List.toArray (out.map iV)) 3 (0, 0)) :: (cb, chO pl V.length capl (at_ + 1 + g)) :: D)) (m := _) (⟨0, 10, rfl, rfl, by decide, rfl, ⟨rfl, rfl, rfl, rfl, trivial⟩, rfl⟩) ?_; rintro m E H ⟨d, k2, hkd, rfl, hd9, htd, hE, rfl⟩; refine W.env hE ?_; have hp9 : 2 ^ d ≤ 2 ^ 9 := Nat.pow_le_pow_right (by decide) hd9; refine W_seq fun K22 hK22 => ?_; refine W_seq fun K23 hK23 => ?_; refine W_region ?_; refine xm rfl rfl ?_; refine xp (n_shl rfl rfl rfl kI (by show _ ≤ 64; omega) (by omega)) rfl ?_; refine xm rfl rfl ?_; refine xp (v_len rfl underlying23 rfl) rfl ?_; refine xp (n_lt rfl rfl rfl) rfl ?_; refine WO_nil (sq_n (hK23 _ _ ?_))
          refine W_cond rfl (fun hc3 => ?_) (fun hc3 => ?_)
          · replace hc3 := of_decide_eq_true hc3; refine W_skip (sq_n (hK22 _ _ ?_)); refine W_block ?_; refine W_region ?_; refine xm rfl rfl ?_; refine xp (n_add rfl rfl rfl kI (by omega)) rfl ?_; refine xa rfl rfl ?_; refine WO_nil (bl_n (sq_n (?_))); obtain ⟨k2, rfl⟩ : ∃ j, k2 = j + 1 := ⟨k2 - 1, by omega⟩; rw [tdeep, if_pos (by omega)] at htd; have hd8 : d ≠ 9 := fun e => by subst e; omega
            exact ⟨k2, by omega, d + 1, k2, by omega, rfl, by omega, htd, ⟨rfl, rfl, rfl, rfl, trivial⟩, rfl⟩
          · replace hc3 := of_decide_eq_false hc3; have htd2 : tdeep l.length 10 0 = d := by
              rw [← htd]
              cases k2 with
              | zero => rfl
              | succ k2 => rw [tdeep, if_neg (by omega)]
            rw [show (1 : Nat) * 2 ^ d = 2 ^ d by omega] at *; refine W_exit (sq_x (sq_x (bl_x (sq_n (hK21 _ _ ?_))))); refine W.keep [7,8,11,14] rfl ?_; refine W_seq fun K24 hK24 => ?_; refine W_region ?_; refine xm rfl rfl ?_; refine xp (n_shl rfl rfl rfl kI (by show _ ≤ 64; omega) (by omega)) rfl ?_; refine xm rfl rfl ?_; refine xp (v_len rfl underlying23 rfl) rfl ?_; refine xp (n_sub rfl rfl rfl kI (by omega) (by omega)) rfl ?_; refine xa rfl rfl ?_; refine WO_nil (sq_n (hK24 _ _ ?_)); refine W.keep [7,8,11,14,15] rfl ?_; refine W_seq fun K25 hK25 => ?_; refine W_seq fun K26 hK26 => ?_; rw [Nat.one_mul]; obtain ⟨sh, hsh⟩ : ∃ sh, 2 ^ d - l.length = sh := ⟨_, rfl⟩; rw [hsh]; obtain ⟨of, hof⟩ : ∃ of, tfill (g + d) sh l 0 out = of := ⟨_, rfl⟩; have hfin : (if g = 0 ∧ l.length = 1 then of.set (l.getD 0 0) 1 else of, at_ + 1 + g) = tree U V at_ most := by
              rw [← hstop]; unfold tree2; dsimp only; rw [htd2, hsh, hof]
            clear hstop htr; refine W_region ?_; refine xm rfl rfl ?_; refine xp (v_len rfl underlying23 rfl) rfl ?_; refine xm rfl rfl ?_; refine WO_nil (sq_n (hK26 _ _ ?_)); refine W_block ?_; refine W_loop (fun m E H => ∃ s ou, s ≤ l.length ∧ m = l.length - s ∧ tfill (g + d) sh (l.drop s) s ou = of ∧ ou.length = i ∧ Sub E [(7, .slice (some ⟨ob, 0, none⟩) i i), (8, .slice pq l.length c2), (11, iV g), (14, iV d), (15, iV sh), (85, .slice pq l.length c2), (86, iV l.length), (87, iV s)] ∧ H = G ++ ((ob, .cells (List.toArray (ou.map iV)) 3 (0, 0)) :: (cb, chO pl V.length capl (at_ + 1 + g)) :: D)) (m := _) (⟨0, out, by omega, rfl, hof, hol, ⟨rfl, rfl, rfl, rfl, rfl, rfl, rfl, rfl, trivial⟩, rfl⟩) ?_; rintro m E H ⟨s, ou, hs, rfl, htf, hou, hE, rfl⟩; refine W.env hE ?_; refine W_seq fun K27 hK27 => ?_; refine W_region ?_; refine xp (n_lt rfl rfl rfl) rfl ?_
            refine WO_nil (sq_n (hK27 _ _ ?_)); refine W_seq fun K28 hK28 => ?_; refine W_cond rfl (fun hc4 => ?_) (fun hc4 => ?_)
            · replace hc4 := of_decide_eq_true hc4; obtain ⟨b3, off3, c3, ty3, fz3, r3, rfl, hat3, hcc3⟩ := hdl (by intro e; subst e; simp at hc4); have hat4 := AtH.appl (D := (ob, .cells (List.toArray (ou.map iV)) 3 (0, 0)) :: (cb, chO pl V.length capl (at_ + 1 + g)) :: D) hat3; have hgj : l.getD s 0 < i := by rw [getD_in hc4]; exact hst.lt _ (List.getElem_mem hc4)
              refine W_skip (sq_n (hK28 _ _ ?_)); refine W_seq_mid (fun E H => Sub E [(7, .slice (some ⟨ob, 0, none⟩) i i), (8, .slice (some ⟨b3, off3, none⟩) l.length c2), (11, iV g), (14, iV d), (15, iV sh), (85, .slice (some ⟨b3, off3, none⟩) l.length c2), (86, iV l.length), (87, iV s)] ∧ H = G ++ ((ob, .cells (List.toArray ((ou.set (l.getD s 0) (if s < sh then g + d - 1 else g + d)).map iV)) 3 (0, 0)) :: (cb, chO pl V.length capl (at_ + 1 + g)) :: D)) ?_ ?_
              · refine W_block ?_; refine W_seq fun K30 hK30 => ?_; refine W_region ?_; refine xm rfl rfl ?_; refine xp (v_ixs rfl underlying23 sizeOf3 rfl rfl (by omega)) rfl ?_; refine xv (v_ld rfl rfl isAgg3 (v := iV (l.getD s 0)) (by rw [hcc3 s hc4, getD_in hc4])) rfl ?_; refine xa rfl rfl ?_; refine xa rfl rfl ?_; refine WO_nil (sq_n (hK30 _ _ ?_)); refine W_seq fun K31 hK31 => ?_; refine W_region ?_; refine xm rfl rfl ?_; refine xm rfl rfl ?_; refine xm rfl rfl ?_; refine xm rfl rfl ?_; refine xp (n_add rfl rfl rfl kI (by omega)) rfl ?_; refine xp (v_ixs rfl underlying23 sizeOf3 rfl rfl (by omega)) rfl ?_; refine wst' rfl rfl rfl sizeOf3 rfl (List.map_set (f := iV)).symm (by rw [List.length_map]; omega) rfl rfl ?_; refine WO_nil (sq_n (hK31 _ _ ?_)); refine W_seq fun K32 hK32 => ?_; refine W_region ?_; refine xm rfl rfl ?_; refine xm rfl rfl ?_; refine xp (n_lt rfl rfl rfl) rfl ?_
                refine WO_nil (sq_n (hK32 _ _ ?_)); refine W_cond rfl (fun hc5 => ?_) (fun hc5 => ?_)
                · replace hc5 := of_decide_eq_true hc5; have hos : (ou.set (l.getD s 0) (g + d)).length = i := by rw [List.length_set]; exact hou
                  have hog : (ou.set (l.getD s 0) (g + d)).getD (l.getD s 0) 0 = g + d := by rw [getD_set (by omega), if_pos rfl]
                  have hd1 : 1 ≤ d := by
                    rcases Nat.eq_zero_or_pos d with h0 | h0
                    · subst h0; have : 2 ^ 0 = 1 := rfl; omega
                    · exact h0
                  refine W_region ?_; refine xm rfl rfl ?_; refine xm rfl rfl ?_; refine xp (v_ixs rfl underlying23 sizeOf3 rfl rfl (by omega)) rfl ?_; refine xv (v_ld rfl rfl isAgg3 (v := iV (g + d)) (by rw [ints_at (by omega), hog])) rfl ?_; refine xp (n_sub rfl rfl rfl kI (by omega) (by omega)) rfl ?_; refine xp (v_ixs rfl underlying23 sizeOf3 rfl rfl (by omega)) rfl ?_; refine wst' rfl rfl rfl sizeOf3 rfl (by rw [← List.map_set, List.set_set]) (by rw [List.length_map]; omega) rfl rfl ?_; refine WO_nil (bl_n (sq_n (?_))); first
                  | (have hq : s < sh := hc5; rw [if_pos hq]; exact ⟨⟨rfl, rfl, rfl, rfl, rfl, rfl, rfl, rfl, trivial⟩, rfl⟩)
                  | (have hq : ¬ s < sh := hc5; rw [if_neg hq]; exact ⟨⟨rfl, rfl, rfl, rfl, rfl, rfl, rfl, rfl, trivial⟩, rfl⟩)
                · replace hc5 := of_decide_eq_false hc5; refine W_skip (bl_n (sq_n (?_))); first
                  | (have hq : s < sh := hc5; rw [if_pos hq]; exact ⟨⟨rfl, rfl, rfl, rfl, rfl, rfl, rfl, rfl, trivial⟩, rfl⟩)
                  | (have hq : ¬ s < sh := hc5; rw [if_neg hq]; exact ⟨⟨rfl, rfl, rfl, rfl, rfl, rfl, rfl, rfl, trivial⟩, rfl⟩)
              · rintro E H ⟨hE, rfl⟩; refine W.env hE ?_; refine W_region ?_; refine xp (n_add rfl rfl rfl kI (by omega)) rfl ?_; refine xm rfl rfl ?_; refine WO_nil (sq_n (?_)); rw [List.drop_eq_getElem_cons hc4, tfill, ← getD_in (d := 0) hc4] at htf; exact ⟨l.length - (s + 1), by omega, s + 1, _, by omega, rfl, htf, by rw [List.length_set]; exact hou, ⟨rfl, rfl, rfl, rfl, rfl, rfl, rfl, rfl, trivial⟩, rfl⟩
            · replace hc4 := of_decide_eq_false hc4; obtain rfl : s = l.length := by omega
              rw [List.drop_length, tfill] at htf; subst htf; refine W_exit (sq_x (sq_x (bl_x (sq_n (hK25 _ _ ?_))))); refine W.keep [7,8,11] rfl ?_; refine W_seq fun K33 hK33 => ?_; refine W_seq fun K34 hK34 => ?_; by_cases hg0 : g = 0
              · by_cases hl1 : l.length = 1
                · rw [if_pos ⟨hg0, hl1⟩] at hfin; obtain ⟨b3, off3, c3, ty3, fz3, r3, rfl, hat3, hcc3⟩ := hdl (by intro e; subst e; simp at hl1); have hat4 := AtH.appl (D := (ob, .cells (List.toArray (ou.map iV)) 3 (0, 0)) :: (cb, chO pl V.length capl (at_ + 1 + g)) :: D) hat3; have hl01 : 0 < l.length := by omega
                  have hgj : l.getD 0 0 < i := by rw [getD_in hl01]; exact hst.lt _ (List.getElem_mem hl01)
                  refine W_region ?_; refine xm rfl rfl ?_; refine xp (v_eq rfl rfl rfl (dT (by omega))) rfl ?_; refine xm rfl rfl ?_; refine xm rfl rfl ?_; refine xp (v_len rfl underlying23 rfl) rfl ?_; refine xp (v_eq rfl rfl rfl (dT (by omega))) rfl ?_; refine xp (v_pt rfl rfl rfl) rfl ?_; refine WO_nil (sq_n (hK34 _ _ ?_)); refine W.keep [7,8,114] rfl ?_; refine W_cond_t rfl ?_; refine W_region ?_; refine xm rfl rfl ?_; refine xm rfl rfl ?_; refine xp (v_ixs rfl underlying23 sizeOf3 rfl rfl (by omega)) rfl ?_; refine xv (v_ld rfl rfl isAgg3 (v := iV (l.getD 0 0)) (by rw [hcc3 0 hl01, getD_in hl01])) rfl ?_; refine xp (v_ixs rfl underlying23 sizeOf3 rfl rfl (by omega)) rfl ?_; refine wst' rfl rfl rfl sizeOf3 rfl (List.map_set (f := iV) (a := 1)).symm (by rw [List.length_map]; omega) rfl rfl ?_; refine WO_nil (sq_n (hK33 _ _ ?_)); refine W.keep [7] rfl ?_
                  refine W_seq fun K35 hK35 => ?_; refine W_region ?_; refine xm rfl rfl ?_; refine xa rfl rfl ?_; refine WO_nil (sq_n (hK35 _ _ ?_)); refine W_ret (ret_of (v := _) rfl ?_); rw [← hfin]; exact ⟨ob, G, rfl, rfl⟩
                · rw [if_neg (fun h => hl1 h.2)] at hfin; refine W_region ?_; refine xm rfl rfl ?_; refine xp (v_eq rfl rfl rfl (dT (by omega))) rfl ?_; refine xm rfl rfl ?_; refine xm rfl rfl ?_; refine xp (v_len rfl underlying23 rfl) rfl ?_; refine xp (v_eq rfl rfl rfl (dF (by omega))) rfl ?_; refine xp (v_pt rfl rfl rfl) rfl ?_; refine WO_nil (sq_n (hK34 _ _ ?_)); refine W.keep [7,8,114] rfl ?_; refine W_cond_f rfl ?_; refine W_skip (sq_n (hK33 _ _ ?_)); refine W_seq fun K36 hK36 => ?_; refine W_region ?_; refine xm rfl rfl ?_; refine xa rfl rfl ?_; refine WO_nil (sq_n (hK36 _ _ ?_)); refine W.keep [6] rfl ?_; refine W_ret (ret_of (v := _) rfl ?_); rw [← hfin]; exact ⟨ob, G, rfl, rfl⟩
              · rw [if_neg (fun h => hg0 h.1)] at hfin; refine W_region ?_; refine xm rfl rfl ?_; refine xp (v_eq rfl rfl rfl (dF (by omega))) rfl ?_; refine xm rfl rfl ?_; refine xno rfl ?_; refine xno rfl ?_; refine xno rfl ?_; refine xp (v_pf rfl rfl rfl) rfl ?_; refine WO_nil (sq_n (hK34 _ _ ?_)); refine W.keep [7,8,114] rfl ?_; refine W_cond_f rfl ?_; refine W_skip (sq_n (hK33 _ _ ?_)); refine W_seq fun K37 hK37 => ?_; refine W_region ?_; refine xm rfl rfl ?_; refine xa rfl rfl ?_; refine WO_nil (sq_n (hK37 _ _ ?_)); refine W.keep [6] rfl ?_; refine W_ret (ret_of (v := _) rfl ?_); rw [← hfin]; exact ⟨ob, G, rfl, rfl⟩
      · have hstop : tree2 (out, l, g, at_ + 1 + g) = tree U V at_ most := by
          obtain ⟨k, rfl⟩ : ∃ j, k = j + 1 := ⟨k - 1, by omega⟩; rw [tskew, if_neg (fun h => hk2 h.1)] at htr; exact htr
        refine W_region ?_; refine xm rfl rfl ?_; refine xp (v_gt rfl rfl rfl (dT (by omega))) rfl ?_; refine xm rfl rfl ?_; refine xm rfl rfl ?_; refine xp (v_len rfl underlying23 rfl) rfl ?_; refine xp (v_gt rfl rfl rfl (dF (by omega))) rfl ?_; refine xp (v_pt rfl rfl rfl) rfl ?_; refine xm rfl rfl ?_; refine xno rfl ?_; refine xno rfl ?_; refine xno rfl ?_; refine xno rfl ?_; refine xp (v_pf rfl rfl rfl) rfl ?_; refine WO_nil (sq_n (hK15 _ _ ?_)); refine W_cond_f rfl ?_; refine W_exit (sq_x (sq_x (bl_x (sq_n (hK12 _ _ ?_))))); refine W.keep [7,8,11] rfl ?_; refine W_seq fun K38 hK38 => ?_; refine W_region ?_; refine xa rfl rfl ?_; refine WO_nil (sq_n (hK38 _ _ ?_)); refine W_seq fun K39 hK39 => ?_; refine W_block ?_
        refine W_loop (fun m E H => ∃ d k2, k2 + d = 10 ∧ k2 = m ∧ d ≤ 9 ∧ tdeep l.length k2 d = tdeep l.length 10 0 ∧ Sub E [(7, .slice (some ⟨ob, 0, none⟩) i i), (8, .slice pq l.length c2), (11, iV g), (14, iV d)] ∧ H = G ++ ((ob, .cells (List.toArray (out.map iV)) 3 (0, 0)) :: (cb, chO pl V.length capl (at_ + 1 + g)) :: D)) (m := _) (⟨0, 10, rfl, rfl, by decide, rfl, ⟨rfl, rfl, rfl, rfl, trivial⟩, rfl⟩) ?_; rintro m E H ⟨d, k2, hkd, rfl, hd9, htd, hE, rfl⟩; refine W.env hE ?_; have hp9 : 2 ^ d ≤ 2 ^ 9 := Nat.pow_le_pow_right (by decide) hd9; refine W_seq fun K40 hK40 => ?_; refine W_seq fun K41 hK41 => ?_; refine W_region ?_; refine xm rfl rfl ?_; refine xp (n_shl rfl rfl rfl kI (by show _ ≤ 64; omega) (by omega)) rfl ?_; refine xm rfl rfl ?_; refine xp (v_len rfl underlying23 rfl) rfl ?_; refine xp (n_lt rfl rfl rfl) rfl ?_; refine WO_nil (sq_n (hK41 _ _ ?_))
        refine W_cond rfl (fun hc3 => ?_) (fun hc3 => ?_)
        · replace hc3 := of_decide_eq_true hc3; refine W_skip (sq_n (hK40 _ _ ?_)); refine W_block ?_; refine W_region ?_; refine xm rfl rfl ?_; refine xp (n_add rfl rfl rfl kI (by omega)) rfl ?_; refine xa rfl rfl ?_; refine WO_nil (bl_n (sq_n (?_))); obtain ⟨k2, rfl⟩ : ∃ j, k2 = j + 1 := ⟨k2 - 1, by omega⟩; rw [tdeep, if_pos (by omega)] at htd; have hd8 : d ≠ 9 := fun e => by subst e; omega
          exact ⟨k2, by omega, d + 1, k2, by omega, rfl, by omega, htd, ⟨rfl, rfl, rfl, rfl, trivial⟩, rfl⟩
        · replace hc3 := of_decide_eq_false hc3; have htd2 : tdeep l.length 10 0 = d := by
            rw [← htd]
            cases k2 with
            | zero => rfl
            | succ k2 => rw [tdeep, if_neg (by omega)]
          rw [show (1 : Nat) * 2 ^ d = 2 ^ d by omega] at *; refine W_exit (sq_x (sq_x (bl_x (sq_n (hK39 _ _ ?_))))); refine W.keep [7,8,11,14] rfl ?_; refine W_seq fun K42 hK42 => ?_; refine W_region ?_; refine xm rfl rfl ?_; refine xp (n_shl rfl rfl rfl kI (by show _ ≤ 64; omega) (by omega)) rfl ?_; refine xm rfl rfl ?_; refine xp (v_len rfl underlying23 rfl) rfl ?_; refine xp (n_sub rfl rfl rfl kI (by omega) (by omega)) rfl ?_; refine xa rfl rfl ?_; refine WO_nil (sq_n (hK42 _ _ ?_)); refine W.keep [7,8,11,14,15] rfl ?_; refine W_seq fun K43 hK43 => ?_; refine W_seq fun K44 hK44 => ?_; rw [Nat.one_mul]; obtain ⟨sh, hsh⟩ : ∃ sh, 2 ^ d - l.length = sh := ⟨_, rfl⟩; rw [hsh]; obtain ⟨of, hof⟩ : ∃ of, tfill (g + d) sh l 0 out = of := ⟨_, rfl⟩; have hfin : (if g = 0 ∧ l.length = 1 then of.set (l.getD 0 0) 1 else of, at_ + 1 + g) = tree U V at_ most := by
            rw [← hstop]; unfold tree2; dsimp only; rw [htd2, hsh, hof]
          clear hstop htr; refine W_region ?_; refine xm rfl rfl ?_; refine xp (v_len rfl underlying23 rfl) rfl ?_; refine xm rfl rfl ?_; refine WO_nil (sq_n (hK44 _ _ ?_)); refine W_block ?_; refine W_loop (fun m E H => ∃ s ou, s ≤ l.length ∧ m = l.length - s ∧ tfill (g + d) sh (l.drop s) s ou = of ∧ ou.length = i ∧ Sub E [(7, .slice (some ⟨ob, 0, none⟩) i i), (8, .slice pq l.length c2), (11, iV g), (14, iV d), (15, iV sh), (85, .slice pq l.length c2), (86, iV l.length), (87, iV s)] ∧ H = G ++ ((ob, .cells (List.toArray (ou.map iV)) 3 (0, 0)) :: (cb, chO pl V.length capl (at_ + 1 + g)) :: D)) (m := _) (⟨0, out, by omega, rfl, hof, hol, ⟨rfl, rfl, rfl, rfl, rfl, rfl, rfl, rfl, trivial⟩, rfl⟩) ?_; rintro m E H ⟨s, ou, hs, rfl, htf, hou, hE, rfl⟩; refine W.env hE ?_; refine W_seq fun K45 hK45 => ?_; refine W_region ?_; refine xp (n_lt rfl rfl rfl) rfl ?_; refine WO_nil (sq_n (hK45 _ _ ?_))
          refine W_seq fun K46 hK46 => ?_; refine W_cond rfl (fun hc4 => ?_) (fun hc4 => ?_)
          · replace hc4 := of_decide_eq_true hc4; obtain ⟨b3, off3, c3, ty3, fz3, r3, rfl, hat3, hcc3⟩ := hdl (by intro e; subst e; simp at hc4); have hat4 := AtH.appl (D := (ob, .cells (List.toArray (ou.map iV)) 3 (0, 0)) :: (cb, chO pl V.length capl (at_ + 1 + g)) :: D) hat3; have hgj : l.getD s 0 < i := by rw [getD_in hc4]; exact hst.lt _ (List.getElem_mem hc4)
            refine W_skip (sq_n (hK46 _ _ ?_)); refine W_seq_mid (fun E H => Sub E [(7, .slice (some ⟨ob, 0, none⟩) i i), (8, .slice (some ⟨b3, off3, none⟩) l.length c2), (11, iV g), (14, iV d), (15, iV sh), (85, .slice (some ⟨b3, off3, none⟩) l.length c2), (86, iV l.length), (87, iV s)] ∧ H = G ++ ((ob, .cells (List.toArray ((ou.set (l.getD s 0) (if s < sh then g + d - 1 else g + d)).map iV)) 3 (0, 0)) :: (cb, chO pl V.length capl (at_ + 1 + g)) :: D)) ?_ ?_
            · refine W_block ?_; refine W_seq fun K48 hK48 => ?_; refine W_region ?_; refine xm rfl rfl ?_; refine xp (v_ixs rfl underlying23 sizeOf3 rfl rfl (by omega)) rfl ?_; refine xv (v_ld rfl rfl isAgg3 (v := iV (l.getD s 0)) (by rw [hcc3 s hc4, getD_in hc4])) rfl ?_; refine xa rfl rfl ?_; refine xa rfl rfl ?_; refine WO_nil (sq_n (hK48 _ _ ?_)); refine W_seq fun K49 hK49 => ?_; refine W_region ?_; refine xm rfl rfl ?_; refine xm rfl rfl ?_; refine xm rfl rfl ?_; refine xm rfl rfl ?_; refine xp (n_add rfl rfl rfl kI (by omega)) rfl ?_; refine xp (v_ixs rfl underlying23 sizeOf3 rfl rfl (by omega)) rfl ?_; refine wst' rfl rfl rfl sizeOf3 rfl (List.map_set (f := iV)).symm (by rw [List.length_map]; omega) rfl rfl ?_; refine WO_nil (sq_n (hK49 _ _ ?_)); refine W_seq fun K50 hK50 => ?_; refine W_region ?_; refine xm rfl rfl ?_; refine xm rfl rfl ?_; refine xp (n_lt rfl rfl rfl) rfl ?_
              refine WO_nil (sq_n (hK50 _ _ ?_)); refine W_cond rfl (fun hc5 => ?_) (fun hc5 => ?_)
              · replace hc5 := of_decide_eq_true hc5; have hos : (ou.set (l.getD s 0) (g + d)).length = i := by rw [List.length_set]; exact hou
                have hog : (ou.set (l.getD s 0) (g + d)).getD (l.getD s 0) 0 = g + d := by rw [getD_set (by omega), if_pos rfl]
                have hd1 : 1 ≤ d := by
                  rcases Nat.eq_zero_or_pos d with h0 | h0
                  · subst h0; have : 2 ^ 0 = 1 := rfl; omega
                  · exact h0
                refine W_region ?_; refine xm rfl rfl ?_; refine xm rfl rfl ?_; refine xp (v_ixs rfl underlying23 sizeOf3 rfl rfl (by omega)) rfl ?_; refine xv (v_ld rfl rfl isAgg3 (v := iV (g + d)) (by rw [ints_at (by omega), hog])) rfl ?_; refine xp (n_sub rfl rfl rfl kI (by omega) (by omega)) rfl ?_; refine xp (v_ixs rfl underlying23 sizeOf3 rfl rfl (by omega)) rfl ?_; refine wst' rfl rfl rfl sizeOf3 rfl (by rw [← List.map_set, List.set_set]) (by rw [List.length_map]; omega) rfl rfl ?_; refine WO_nil (bl_n (sq_n (?_))); first
                | (have hq : s < sh := hc5; rw [if_pos hq]; exact ⟨⟨rfl, rfl, rfl, rfl, rfl, rfl, rfl, rfl, trivial⟩, rfl⟩)
                | (have hq : ¬ s < sh := hc5; rw [if_neg hq]; exact ⟨⟨rfl, rfl, rfl, rfl, rfl, rfl, rfl, rfl, trivial⟩, rfl⟩)
              · replace hc5 := of_decide_eq_false hc5; refine W_skip (bl_n (sq_n (?_))); first
                | (have hq : s < sh := hc5; rw [if_pos hq]; exact ⟨⟨rfl, rfl, rfl, rfl, rfl, rfl, rfl, rfl, trivial⟩, rfl⟩)
                | (have hq : ¬ s < sh := hc5; rw [if_neg hq]; exact ⟨⟨rfl, rfl, rfl, rfl, rfl, rfl, rfl, rfl, trivial⟩, rfl⟩)
            · rintro E H ⟨hE, rfl⟩; refine W.env hE ?_; refine W_region ?_; refine xp (n_add rfl rfl rfl kI (by omega)) rfl ?_; refine xm rfl rfl ?_; refine WO_nil (sq_n (?_)); rw [List.drop_eq_getElem_cons hc4, tfill, ← getD_in (d := 0) hc4] at htf; exact ⟨l.length - (s + 1), by omega, s + 1, _, by omega, rfl, htf, by rw [List.length_set]; exact hou, ⟨rfl, rfl, rfl, rfl, rfl, rfl, rfl, rfl, trivial⟩, rfl⟩
          · replace hc4 := of_decide_eq_false hc4; obtain rfl : s = l.length := by omega
            rw [List.drop_length, tfill] at htf; subst htf; refine W_exit (sq_x (sq_x (bl_x (sq_n (hK43 _ _ ?_))))); refine W.keep [7,8,11] rfl ?_; refine W_seq fun K51 hK51 => ?_; refine W_seq fun K52 hK52 => ?_; by_cases hg0 : g = 0
            · by_cases hl1 : l.length = 1
              · rw [if_pos ⟨hg0, hl1⟩] at hfin; obtain ⟨b3, off3, c3, ty3, fz3, r3, rfl, hat3, hcc3⟩ := hdl (by intro e; subst e; simp at hl1); have hat4 := AtH.appl (D := (ob, .cells (List.toArray (ou.map iV)) 3 (0, 0)) :: (cb, chO pl V.length capl (at_ + 1 + g)) :: D) hat3; have hl01 : 0 < l.length := by omega
                have hgj : l.getD 0 0 < i := by rw [getD_in hl01]; exact hst.lt _ (List.getElem_mem hl01)
                refine W_region ?_; refine xm rfl rfl ?_; refine xp (v_eq rfl rfl rfl (dT (by omega))) rfl ?_; refine xm rfl rfl ?_; refine xm rfl rfl ?_; refine xp (v_len rfl underlying23 rfl) rfl ?_; refine xp (v_eq rfl rfl rfl (dT (by omega))) rfl ?_; refine xp (v_pt rfl rfl rfl) rfl ?_; refine WO_nil (sq_n (hK52 _ _ ?_)); refine W.keep [7,8,114] rfl ?_; refine W_cond_t rfl ?_; refine W_region ?_; refine xm rfl rfl ?_; refine xm rfl rfl ?_; refine xp (v_ixs rfl underlying23 sizeOf3 rfl rfl (by omega)) rfl ?_; refine xv (v_ld rfl rfl isAgg3 (v := iV (l.getD 0 0)) (by rw [hcc3 0 hl01, getD_in hl01])) rfl ?_; refine xp (v_ixs rfl underlying23 sizeOf3 rfl rfl (by omega)) rfl ?_; refine wst' rfl rfl rfl sizeOf3 rfl (List.map_set (f := iV) (a := 1)).symm (by rw [List.length_map]; omega) rfl rfl ?_; refine WO_nil (sq_n (hK51 _ _ ?_)); refine W.keep [7] rfl ?_; refine W_seq fun K53 hK53 => ?_
                refine W_region ?_; refine xm rfl rfl ?_; refine xa rfl rfl ?_; refine WO_nil (sq_n (hK53 _ _ ?_)); refine W_ret (ret_of (v := _) rfl ?_); rw [← hfin]; exact ⟨ob, G, rfl, rfl⟩
              · rw [if_neg (fun h => hl1 h.2)] at hfin; refine W_region ?_; refine xm rfl rfl ?_; refine xp (v_eq rfl rfl rfl (dT (by omega))) rfl ?_; refine xm rfl rfl ?_; refine xm rfl rfl ?_; refine xp (v_len rfl underlying23 rfl) rfl ?_; refine xp (v_eq rfl rfl rfl (dF (by omega))) rfl ?_; refine xp (v_pt rfl rfl rfl) rfl ?_; refine WO_nil (sq_n (hK52 _ _ ?_)); refine W.keep [7,8,114] rfl ?_; refine W_cond_f rfl ?_; refine W_skip (sq_n (hK51 _ _ ?_)); refine W_seq fun K54 hK54 => ?_; refine W_region ?_; refine xm rfl rfl ?_; refine xa rfl rfl ?_; refine WO_nil (sq_n (hK54 _ _ ?_)); refine W.keep [6] rfl ?_; refine W_ret (ret_of (v := _) rfl ?_); rw [← hfin]; exact ⟨ob, G, rfl, rfl⟩
            · rw [if_neg (fun h => hg0 h.1)] at hfin; refine W_region ?_; refine xm rfl rfl ?_; refine xp (v_eq rfl rfl rfl (dF (by omega))) rfl ?_; refine xm rfl rfl ?_; refine xno rfl ?_; refine xno rfl ?_; refine xno rfl ?_; refine xp (v_pf rfl rfl rfl) rfl ?_; refine WO_nil (sq_n (hK52 _ _ ?_)); refine W.keep [7,8,114] rfl ?_; refine W_cond_f rfl ?_; refine W_skip (sq_n (hK51 _ _ ?_)); refine W_seq fun K55 hK55 => ?_; refine W_region ?_; refine xm rfl rfl ?_; refine xa rfl rfl ?_; refine WO_nil (sq_n (hK55 _ _ ?_)); refine W.keep [6] rfl ?_; refine W_ret (ret_of (v := _) rfl ?_); rw [← hfin]; exact ⟨ob, G, rfl, rfl⟩
    · have hstop : tree2 (out, l, g, at_ + 1 + g) = tree U V at_ most := by
        obtain rfl : k = 0 := by omega
        exact htr
      refine W_region ?_; refine xm rfl rfl ?_; refine xp (v_gt rfl rfl rfl (dF (by omega))) rfl ?_; refine xm rfl rfl ?_; refine xno rfl ?_; refine xno rfl ?_; refine xno rfl ?_; refine xp (v_pf rfl rfl rfl) rfl ?_; refine xm rfl rfl ?_; refine xno rfl ?_; refine xno rfl ?_; refine xno rfl ?_; refine xno rfl ?_; refine xp (v_pf rfl rfl rfl) rfl ?_; refine WO_nil (sq_n (hK15 _ _ ?_)); refine W_cond_f rfl ?_; refine W_exit (sq_x (sq_x (bl_x (sq_n (hK12 _ _ ?_))))); refine W.keep [7,8,11] rfl ?_; refine W_seq fun K56 hK56 => ?_; refine W_region ?_; refine xa rfl rfl ?_; refine WO_nil (sq_n (hK56 _ _ ?_)); refine W_seq fun K57 hK57 => ?_; refine W_block ?_
      refine W_loop (fun m E H => ∃ d k2, k2 + d = 10 ∧ k2 = m ∧ d ≤ 9 ∧ tdeep l.length k2 d = tdeep l.length 10 0 ∧ Sub E [(7, .slice (some ⟨ob, 0, none⟩) i i), (8, .slice pq l.length c2), (11, iV g), (14, iV d)] ∧ H = G ++ ((ob, .cells (List.toArray (out.map iV)) 3 (0, 0)) :: (cb, chO pl V.length capl (at_ + 1 + g)) :: D)) (m := _) (⟨0, 10, rfl, rfl, by decide, rfl, ⟨rfl, rfl, rfl, rfl, trivial⟩, rfl⟩) ?_; rintro m E H ⟨d, k2, hkd, rfl, hd9, htd, hE, rfl⟩; refine W.env hE ?_; have hp9 : 2 ^ d ≤ 2 ^ 9 := Nat.pow_le_pow_right (by decide) hd9; refine W_seq fun K58 hK58 => ?_; refine W_seq fun K59 hK59 => ?_; refine W_region ?_; refine xm rfl rfl ?_; refine xp (n_shl rfl rfl rfl kI (by show _ ≤ 64; omega) (by omega)) rfl ?_; refine xm rfl rfl ?_; refine xp (v_len rfl underlying23 rfl) rfl ?_; refine xp (n_lt rfl rfl rfl) rfl ?_; refine WO_nil (sq_n (hK59 _ _ ?_))
      refine W_cond rfl (fun hc3 => ?_) (fun hc3 => ?_)
      · replace hc3 := of_decide_eq_true hc3; refine W_skip (sq_n (hK58 _ _ ?_)); refine W_block ?_; refine W_region ?_; refine xm rfl rfl ?_; refine xp (n_add rfl rfl rfl kI (by omega)) rfl ?_; refine xa rfl rfl ?_; refine WO_nil (bl_n (sq_n (?_))); obtain ⟨k2, rfl⟩ : ∃ j, k2 = j + 1 := ⟨k2 - 1, by omega⟩; rw [tdeep, if_pos (by omega)] at htd; have hd8 : d ≠ 9 := fun e => by subst e; omega
        exact ⟨k2, by omega, d + 1, k2, by omega, rfl, by omega, htd, ⟨rfl, rfl, rfl, rfl, trivial⟩, rfl⟩
      · replace hc3 := of_decide_eq_false hc3; have htd2 : tdeep l.length 10 0 = d := by
          rw [← htd]
          cases k2 with
          | zero => rfl
          | succ k2 => rw [tdeep, if_neg (by omega)]
        rw [show (1 : Nat) * 2 ^ d = 2 ^ d by omega] at *; refine W_exit (sq_x (sq_x (bl_x (sq_n (hK57 _ _ ?_))))); refine W.keep [7,8,11,14] rfl ?_; refine W_seq fun K60 hK60 => ?_; refine W_region ?_; refine xm rfl rfl ?_; refine xp (n_shl rfl rfl rfl kI (by show _ ≤ 64; omega) (by omega)) rfl ?_; refine xm rfl rfl ?_; refine xp (v_len rfl underlying23 rfl) rfl ?_; refine xp (n_sub rfl rfl rfl kI (by omega) (by omega)) rfl ?_; refine xa rfl rfl ?_; refine WO_nil (sq_n (hK60 _ _ ?_)); refine W.keep [7,8,11,14,15] rfl ?_; refine W_seq fun K61 hK61 => ?_; refine W_seq fun K62 hK62 => ?_; rw [Nat.one_mul]; obtain ⟨sh, hsh⟩ : ∃ sh, 2 ^ d - l.length = sh := ⟨_, rfl⟩; rw [hsh]; obtain ⟨of, hof⟩ : ∃ of, tfill (g + d) sh l 0 out = of := ⟨_, rfl⟩; have hfin : (if g = 0 ∧ l.length = 1 then of.set (l.getD 0 0) 1 else of, at_ + 1 + g) = tree U V at_ most := by
          rw [← hstop]; unfold tree2; dsimp only; rw [htd2, hsh, hof]
        clear hstop htr; refine W_region ?_; refine xm rfl rfl ?_; refine xp (v_len rfl underlying23 rfl) rfl ?_; refine xm rfl rfl ?_; refine WO_nil (sq_n (hK62 _ _ ?_)); refine W_block ?_; refine W_loop (fun m E H => ∃ s ou, s ≤ l.length ∧ m = l.length - s ∧ tfill (g + d) sh (l.drop s) s ou = of ∧ ou.length = i ∧ Sub E [(7, .slice (some ⟨ob, 0, none⟩) i i), (8, .slice pq l.length c2), (11, iV g), (14, iV d), (15, iV sh), (85, .slice pq l.length c2), (86, iV l.length), (87, iV s)] ∧ H = G ++ ((ob, .cells (List.toArray (ou.map iV)) 3 (0, 0)) :: (cb, chO pl V.length capl (at_ + 1 + g)) :: D)) (m := _) (⟨0, out, by omega, rfl, hof, hol, ⟨rfl, rfl, rfl, rfl, rfl, rfl, rfl, rfl, trivial⟩, rfl⟩) ?_; rintro m E H ⟨s, ou, hs, rfl, htf, hou, hE, rfl⟩; refine W.env hE ?_; refine W_seq fun K63 hK63 => ?_; refine W_region ?_; refine xp (n_lt rfl rfl rfl) rfl ?_; refine WO_nil (sq_n (hK63 _ _ ?_))
        refine W_seq fun K64 hK64 => ?_; refine W_cond rfl (fun hc4 => ?_) (fun hc4 => ?_)
        · replace hc4 := of_decide_eq_true hc4; obtain ⟨b3, off3, c3, ty3, fz3, r3, rfl, hat3, hcc3⟩ := hdl (by intro e; subst e; simp at hc4); have hat4 := AtH.appl (D := (ob, .cells (List.toArray (ou.map iV)) 3 (0, 0)) :: (cb, chO pl V.length capl (at_ + 1 + g)) :: D) hat3; have hgj : l.getD s 0 < i := by rw [getD_in hc4]; exact hst.lt _ (List.getElem_mem hc4)
          refine W_skip (sq_n (hK64 _ _ ?_)); refine W_seq_mid (fun E H => Sub E [(7, .slice (some ⟨ob, 0, none⟩) i i), (8, .slice (some ⟨b3, off3, none⟩) l.length c2), (11, iV g), (14, iV d), (15, iV sh), (85, .slice (some ⟨b3, off3, none⟩) l.length c2), (86, iV l.length), (87, iV s)] ∧ H = G ++ ((ob, .cells (List.toArray ((ou.set (l.getD s 0) (if s < sh then g + d - 1 else g + d)).map iV)) 3 (0, 0)) :: (cb, chO pl V.length capl (at_ + 1 + g)) :: D)) ?_ ?_
          · refine W_block ?_; refine W_seq fun K66 hK66 => ?_; refine W_region ?_; refine xm rfl rfl ?_; refine xp (v_ixs rfl underlying23 sizeOf3 rfl rfl (by omega)) rfl ?_; refine xv (v_ld rfl rfl isAgg3 (v := iV (l.getD s 0)) (by rw [hcc3 s hc4, getD_in hc4])) rfl ?_; refine xa rfl rfl ?_; refine xa rfl rfl ?_; refine WO_nil (sq_n (hK66 _ _ ?_)); refine W_seq fun K67 hK67 => ?_; refine W_region ?_; refine xm rfl rfl ?_; refine xm rfl rfl ?_; refine xm rfl rfl ?_; refine xm rfl rfl ?_; refine xp (n_add rfl rfl rfl kI (by omega)) rfl ?_; refine xp (v_ixs rfl underlying23 sizeOf3 rfl rfl (by omega)) rfl ?_; refine wst' rfl rfl rfl sizeOf3 rfl (List.map_set (f := iV)).symm (by rw [List.length_map]; omega) rfl rfl ?_; refine WO_nil (sq_n (hK67 _ _ ?_)); refine W_seq fun K68 hK68 => ?_; refine W_region ?_; refine xm rfl rfl ?_; refine xm rfl rfl ?_; refine xp (n_lt rfl rfl rfl) rfl ?_
            refine WO_nil (sq_n (hK68 _ _ ?_)); refine W_cond rfl (fun hc5 => ?_) (fun hc5 => ?_)
            · replace hc5 := of_decide_eq_true hc5; have hos : (ou.set (l.getD s 0) (g + d)).length = i := by rw [List.length_set]; exact hou
              have hog : (ou.set (l.getD s 0) (g + d)).getD (l.getD s 0) 0 = g + d := by rw [getD_set (by omega), if_pos rfl]
              have hd1 : 1 ≤ d := by
                rcases Nat.eq_zero_or_pos d with h0 | h0
                · subst h0; have : 2 ^ 0 = 1 := rfl; omega
                · exact h0
              refine W_region ?_; refine xm rfl rfl ?_; refine xm rfl rfl ?_; refine xp (v_ixs rfl underlying23 sizeOf3 rfl rfl (by omega)) rfl ?_; refine xv (v_ld rfl rfl isAgg3 (v := iV (g + d)) (by rw [ints_at (by omega), hog])) rfl ?_; refine xp (n_sub rfl rfl rfl kI (by omega) (by omega)) rfl ?_; refine xp (v_ixs rfl underlying23 sizeOf3 rfl rfl (by omega)) rfl ?_; refine wst' rfl rfl rfl sizeOf3 rfl (by rw [← List.map_set, List.set_set]) (by rw [List.length_map]; omega) rfl rfl ?_; refine WO_nil (bl_n (sq_n (?_))); first
              | (have hq : s < sh := hc5; rw [if_pos hq]; exact ⟨⟨rfl, rfl, rfl, rfl, rfl, rfl, rfl, rfl, trivial⟩, rfl⟩)
              | (have hq : ¬ s < sh := hc5; rw [if_neg hq]; exact ⟨⟨rfl, rfl, rfl, rfl, rfl, rfl, rfl, rfl, trivial⟩, rfl⟩)
            · replace hc5 := of_decide_eq_false hc5; refine W_skip (bl_n (sq_n (?_))); first
              | (have hq : s < sh := hc5; rw [if_pos hq]; exact ⟨⟨rfl, rfl, rfl, rfl, rfl, rfl, rfl, rfl, trivial⟩, rfl⟩)
              | (have hq : ¬ s < sh := hc5; rw [if_neg hq]; exact ⟨⟨rfl, rfl, rfl, rfl, rfl, rfl, rfl, rfl, trivial⟩, rfl⟩)
          · rintro E H ⟨hE, rfl⟩; refine W.env hE ?_; refine W_region ?_; refine xp (n_add rfl rfl rfl kI (by omega)) rfl ?_; refine xm rfl rfl ?_; refine WO_nil (sq_n (?_)); rw [List.drop_eq_getElem_cons hc4, tfill, ← getD_in (d := 0) hc4] at htf; exact ⟨l.length - (s + 1), by omega, s + 1, _, by omega, rfl, htf, by rw [List.length_set]; exact hou, ⟨rfl, rfl, rfl, rfl, rfl, rfl, rfl, rfl, trivial⟩, rfl⟩
        · replace hc4 := of_decide_eq_false hc4; obtain rfl : s = l.length := by omega
          rw [List.drop_length, tfill] at htf; subst htf; refine W_exit (sq_x (sq_x (bl_x (sq_n (hK61 _ _ ?_))))); refine W.keep [7,8,11] rfl ?_; refine W_seq fun K69 hK69 => ?_; refine W_seq fun K70 hK70 => ?_; by_cases hg0 : g = 0
          · by_cases hl1 : l.length = 1
            · rw [if_pos ⟨hg0, hl1⟩] at hfin; obtain ⟨b3, off3, c3, ty3, fz3, r3, rfl, hat3, hcc3⟩ := hdl (by intro e; subst e; simp at hl1); have hat4 := AtH.appl (D := (ob, .cells (List.toArray (ou.map iV)) 3 (0, 0)) :: (cb, chO pl V.length capl (at_ + 1 + g)) :: D) hat3; have hl01 : 0 < l.length := by omega
              have hgj : l.getD 0 0 < i := by rw [getD_in hl01]; exact hst.lt _ (List.getElem_mem hl01)
              refine W_region ?_; refine xm rfl rfl ?_; refine xp (v_eq rfl rfl rfl (dT (by omega))) rfl ?_; refine xm rfl rfl ?_; refine xm rfl rfl ?_; refine xp (v_len rfl underlying23 rfl) rfl ?_; refine xp (v_eq rfl rfl rfl (dT (by omega))) rfl ?_; refine xp (v_pt rfl rfl rfl) rfl ?_; refine WO_nil (sq_n (hK70 _ _ ?_)); refine W.keep [7,8,114] rfl ?_; refine W_cond_t rfl ?_; refine W_region ?_; refine xm rfl rfl ?_; refine xm rfl rfl ?_; refine xp (v_ixs rfl underlying23 sizeOf3 rfl rfl (by omega)) rfl ?_; refine xv (v_ld rfl rfl isAgg3 (v := iV (l.getD 0 0)) (by rw [hcc3 0 hl01, getD_in hl01])) rfl ?_; refine xp (v_ixs rfl underlying23 sizeOf3 rfl rfl (by omega)) rfl ?_; refine wst' rfl rfl rfl sizeOf3 rfl (List.map_set (f := iV) (a := 1)).symm (by rw [List.length_map]; omega) rfl rfl ?_; refine WO_nil (sq_n (hK69 _ _ ?_)); refine W.keep [7] rfl ?_; refine W_seq fun K71 hK71 => ?_
              refine W_region ?_; refine xm rfl rfl ?_; refine xa rfl rfl ?_; refine WO_nil (sq_n (hK71 _ _ ?_)); refine W_ret (ret_of (v := _) rfl ?_); rw [← hfin]; exact ⟨ob, G, rfl, rfl⟩
            · rw [if_neg (fun h => hl1 h.2)] at hfin; refine W_region ?_; refine xm rfl rfl ?_; refine xp (v_eq rfl rfl rfl (dT (by omega))) rfl ?_; refine xm rfl rfl ?_; refine xm rfl rfl ?_; refine xp (v_len rfl underlying23 rfl) rfl ?_; refine xp (v_eq rfl rfl rfl (dF (by omega))) rfl ?_; refine xp (v_pt rfl rfl rfl) rfl ?_; refine WO_nil (sq_n (hK70 _ _ ?_)); refine W.keep [7,8,114] rfl ?_; refine W_cond_f rfl ?_; refine W_skip (sq_n (hK69 _ _ ?_)); refine W_seq fun K72 hK72 => ?_; refine W_region ?_; refine xm rfl rfl ?_; refine xa rfl rfl ?_; refine WO_nil (sq_n (hK72 _ _ ?_)); refine W.keep [6] rfl ?_; refine W_ret (ret_of (v := _) rfl ?_); rw [← hfin]; exact ⟨ob, G, rfl, rfl⟩
          · rw [if_neg (fun h => hg0 h.1)] at hfin; refine W_region ?_; refine xm rfl rfl ?_; refine xp (v_eq rfl rfl rfl (dF (by omega))) rfl ?_; refine xm rfl rfl ?_; refine xno rfl ?_; refine xno rfl ?_; refine xno rfl ?_; refine xp (v_pf rfl rfl rfl) rfl ?_; refine WO_nil (sq_n (hK70 _ _ ?_)); refine W.keep [7,8,114] rfl ?_; refine W_cond_f rfl ?_; refine W_skip (sq_n (hK69 _ _ ?_)); refine W_seq fun K73 hK73 => ?_; refine W_region ?_; refine xm rfl rfl ?_; refine xa rfl rfl ?_; refine WO_nil (sq_n (hK73 _ _ ?_)); refine W.keep [6] rfl ?_; refine W_ret (ret_of (v := _) rfl ?_); rw [← hfin]; exact ⟨ob, G, rfl, rfl⟩
end
end Go.Proofs.YtpbahgddoamhgaaGreatDoor
namespace Go.Proofs.YtpbahgddoamhgaaGreatDoor
open Go.Proofs.Tryz
open Go Sx Pu
set_option maxRecDepth 10000

namespace Pu
def rlen (L : List Nat) (i : Nat) : Nat → Nat → Nat
  | 0, n => n
  | k + 1, n => if i + n < L.length ∧ L.getD (i + n) 0 = L.getD i 0 then rlen L i k (n + 1) else n
def rq (c : Bool) (V : List Int) (a : Nat) : Bool × Nat := if c = true then (decide (0 < nxt V a 3), a + 1) else (false, a)
def rstep3 (L : List Nat) (_V : List Int) (i m : Nat) (q : Bool × Nat) : T3 × Nat × Nat := if q.1 = true then ((16, min m 6 - 3, 2), min m 6, q.2) else ((L.getD i 0, 0, 0), 1, q.2)
def rq3 (L : List Nat) (V : List Int) (i m a : Nat) : Bool × Nat := rq (decide (0 < i ∧ L.getD i 0 = L.getD (i - 1) 0 ∧ 3 ≤ m)) V a
def rstep2 (L : List Nat) (V : List Int) (i m : Nat) (q : Bool × Nat) : T3 × Nat × Nat := if q.1 = true then ((17, min m 10 - 3, 3), min m 10, q.2) else rstep3 L V i m (rq3 L V i m q.2)
def rq2 (L : List Nat) (V : List Int) (i m a : Nat) : Bool × Nat := rq (decide (L.getD i 0 = 0 ∧ 3 ≤ m)) V a
def rstep1 (L : List Nat) (V : List Int) (i m : Nat) (q : Bool × Nat) : T3 × Nat × Nat := if q.1 = true then ((18, min m 138 - 11, 7), min m 138, q.2) else rstep2 L V i m (rq2 L V i m q.2)
def rq1 (L : List Nat) (V : List Int) (i m a : Nat) : Bool × Nat := rq (decide (L.getD i 0 = 0 ∧ 11 ≤ m)) V a
/-- one run: itself, how long it is, the choices' place behind it -/
def rstep (L : List Nat) (V : List Int) (i a : Nat) : T3 × Nat × Nat := rstep1 L V i (rlen L i L.length 1) (rq1 L V i (rlen L i L.length 1) a)
def rruns (L : List Nat) (V : List Int) : Nat → Nat → Nat → List T3 × Nat
  | 0, _, a => ([], a)
  | k + 1, i, a => if i < L.length then ((rstep L V i a).1 :: (rruns L V k (i + (rstep L V i a).2.1) (rstep L V i a).2.2).1, (rruns L V k (i + (rstep L V i a).2.1) (rstep L V i a).2.2).2) else ([], a)
theorem rlen_bd {L : List Nat} {i : Nat} : ∀ k n, i + n ≤ L.length → n ≤ rlen L i k n ∧ i + rlen L i k n ≤ L.length
  | 0, n, h => ⟨Nat.le_refl _, h⟩
  | k + 1, n, h => by
    rw [rlen]; split
    · rename_i h1; have := rlen_bd (L := L) (i := i) k (n + 1) (by omega); omega
    · exact ⟨Nat.le_refl _, h⟩
theorem rq_bd (c : Bool) (V : List Int) (a : Nat) : a ≤ (rq c V a).2 ∧ (rq c V a).2 ≤ a + 1 ∧ ((rq c V a).1 = true → c = true) := by
  unfold rq; split
  · rename_i h; exact ⟨by simp only; omega, Nat.le_refl _, fun _ => h⟩
  · exact ⟨Nat.le_refl _, by simp only; omega, fun h => by cases h⟩
def RunOk (t : T3) : Prop := t.1 ≤ 18 ∧ t.2.1 ≤ 127 ∧ t.2.2 ≤ 7
theorem rstep_ok {L : List Nat} (h15 : ∀ x ∈ L, x ≤ 15) (V : List Int) (i a : Nat) (hi : i < L.length) : RunOk (rstep L V i a).1 ∧ 1 ≤ (rstep L V i a).2.1 ∧ i + (rstep L V i a).2.1 ≤ L.length ∧ a ≤ (rstep L V i a).2.2 ∧ (rstep L V i a).2.2 ≤ a + 3 := by
  have hb := rlen_bd (L := L) (i := i) L.length 1 (by omega); have hx := getD_le h15 i; unfold rstep; generalize rlen L i L.length 1 = m at *; unfold rstep1; have h1 := rq_bd (decide (L.getD i 0 = 0 ∧ 11 ≤ m)) V a; change _ ≤ (rq1 L V i m a).2 ∧ (rq1 L V i m a).2 ≤ _ ∧ _ at h1
  split
  · rename_i hq; have := of_decide_eq_true (h1.2.2 hq); exact ⟨⟨by simp only; omega, by simp only; omega, by simp only; omega⟩, by simp only; omega, by simp only; omega, by simp only; omega, by simp only; omega⟩
  · unfold rstep2; have h2 := rq_bd (decide (L.getD i 0 = 0 ∧ 3 ≤ m)) V (rq1 L V i m a).2; change _ ≤ (rq2 L V i m _).2 ∧ (rq2 L V i m _).2 ≤ _ ∧ _ at h2
    split
    · rename_i hq; have := of_decide_eq_true (h2.2.2 hq); exact ⟨⟨by simp only; omega, by simp only; omega, by simp only; omega⟩, by simp only; omega, by simp only; omega, by simp only; omega, by simp only; omega⟩
    · unfold rstep3; have h3 := rq_bd (decide (0 < i ∧ L.getD i 0 = L.getD (i - 1) 0 ∧ 3 ≤ m)) V (rq2 L V i m (rq1 L V i m a).2).2; change _ ≤ (rq3 L V i m _).2 ∧ (rq3 L V i m _).2 ≤ _ ∧ _ at h3
      split
      · rename_i hq; have := of_decide_eq_true (h3.2.2 hq); exact ⟨⟨by simp only; omega, by simp only; omega, by simp only; omega⟩, by simp only; omega, by simp only; omega, by simp only; omega, by simp only; omega⟩
      · exact ⟨⟨by simp only; omega, by simp only; omega, by simp only; omega⟩, by simp only; omega, by simp only; omega, by simp only; omega, by simp only; omega⟩
/-- the most that runs may cost: 13 bits a code, and what follows it -/
def rsum : List T3 → Nat
  | [] => 0
  | t :: l => 13 + t.2.2 + rsum l
theorem rstep_sum (L : List Nat) (V : List Int) (i a : Nat) : 13 + (rstep L V i a).1.2.2 ≤ 13 * (rstep L V i a).2.1 := by
  unfold rstep; generalize rlen L i L.length 1 = m at *; unfold rstep1; have h1 := rq_bd (decide (L.getD i 0 = 0 ∧ 11 ≤ m)) V a; change _ ≤ (rq1 L V i m a).2 ∧ (rq1 L V i m a).2 ≤ _ ∧ _ at h1
  split
  · rename_i hq; have := of_decide_eq_true (h1.2.2 hq); simp only; omega
  · unfold rstep2; have h2 := rq_bd (decide (L.getD i 0 = 0 ∧ 3 ≤ m)) V (rq1 L V i m a).2; change _ ≤ (rq2 L V i m _).2 ∧ (rq2 L V i m _).2 ≤ _ ∧ _ at h2
    split
    · rename_i hq; have := of_decide_eq_true (h2.2.2 hq); simp only; omega
    · unfold rstep3; have h3 := rq_bd (decide (0 < i ∧ L.getD i 0 = L.getD (i - 1) 0 ∧ 3 ≤ m)) V (rq2 L V i m (rq1 L V i m a).2).2; change _ ≤ (rq3 L V i m _).2 ∧ (rq3 L V i m _).2 ≤ _ ∧ _ at h3
      split
      · rename_i hq; have := of_decide_eq_true (h3.2.2 hq); simp only; omega
      · simp only; omega
theorem rruns_sum {L : List Nat} (h15 : ∀ x ∈ L, x ≤ 15) (V : List Int) : ∀ k i a, i ≤ L.length → rsum (rruns L V k i a).1 ≤ 13 * (L.length - i)
  | 0, i, a, _ => by simp [rruns, rsum]
  | k + 1, i, a, hi => by
    rw [rruns]
    split
    · rename_i h; obtain ⟨_, h2, h3, _, _⟩ := rstep_ok h15 V i a h; have h4 := rstep_sum L V i a; have h5 := rruns_sum h15 V k _ (rstep L V i a).2.2 h3; simp only [rsum]; omega
    · simp [rsum]
theorem rruns_ok {L : List Nat} (h15 : ∀ x ∈ L, x ≤ 15) (V : List Int) : ∀ k i a, i ≤ L.length → (∀ t ∈ (rruns L V k i a).1, RunOk t) ∧ (rruns L V k i a).1.length ≤ L.length - i ∧ a ≤ (rruns L V k i a).2 ∧ (rruns L V k i a).2 ≤ a + 3 * (L.length - i)
  | 0, i, a, _ => ⟨by simp [rruns], by simp [rruns], Nat.le_refl _, by simp [rruns]⟩
  | k + 1, i, a, hi => by
    rw [rruns]
    split
    · rename_i h; obtain ⟨h1, h2, h3, h4, h5⟩ := rstep_ok h15 V i a h; obtain ⟨g1, g2, g3, g4⟩ := rruns_ok h15 V k _ (rstep L V i a).2.2 h3; refine ⟨fun t ht => ?_, ?_, ?_, ?_⟩
      · rcases List.mem_cons.1 ht with rfl | ht
        · exact h1
        · exact g1 t ht
      · simp only [List.length_cons]; omega
      · simp only; omega
      · simp only; omega
    · exact ⟨by simp, by simp, Nat.le_refl _, by simp only; omega⟩
end Pu
section
variable {D : Hl} {cb at_ capl capL : Nat} {pl pL : Option Addr} {V : List Int} {L : List Nat}
set_option maxHeartbeats 4000000 in
theorem runs_spec (hd : DatI pL L D) (hL : L.length ≤ 400) (h15 : ∀ x ∈ L, x ≤ 15) (hz : DatZ pl V D) (hV : ZW V) (hvl : V.length < 2 ^ 62) (ha : at_ < 2 ^ 60) :
    CallsL Tryz.prog 49 #[.slice pL L.length capL, .pointer (some ⟨cb, 0, none⟩)] ((cb, chO pl V.length capl at_) :: D) fun v H' => ∃ p2 c2 Hs, v = .slice p2 (rruns L V L.length 0 at_).1.length c2 ∧ OwnT 110 p2 c2 (rruns L V L.length 0 at_).1 Hs ∧
      H' = Hs ++ ((cb, chO pl V.length capl (rruns L V L.length 0 at_).2) :: D) := by
  obtain ⟨T, a1, hT, hT2⟩ : ∃ T a1, (rruns L V L.length 0 at_).1 = T ∧ (rruns L V L.length 0 at_).2 = a1 := ⟨_, _, rfl, rfl⟩; rw [hT, hT2]; refine CallsL_of func49 rfl ntmps49 rfl ?_
  try dsimp only [initE, Nat.zero_add]
  refine W_seq fun K1 hK1 => ?_; refine W_region ?_; refine xa rfl rfl ?_; refine WO_nil (sq_n (hK1 _ _ ?_)); refine W_seq fun K2 hK2 => ?_; refine W_region ?_; refine xa rfl rfl ?_; refine WO_nil (sq_n (hK2 _ _ ?_)); refine W_seq fun K3 hK3 => ?_; refine W_seq fun K4 hK4 => ?_; refine W_region ?_; refine xa rfl rfl ?_; refine WO_nil (sq_n (hK4 _ _ ?_)); refine W_block ?_
  refine W_loop (fun m E H => ∃ i a out k p2 c2 Hs, i ≤ L.length ∧ m = L.length - i ∧ L.length ≤ k + i ∧ a ≤ at_ + 3 * i ∧ out.length ≤ i ∧ out ++ (rruns L V k i a).1 = T ∧ (rruns L V k i a).2 = a1 ∧ OwnT 110 p2 c2 out Hs ∧ Sub E [(0, .slice pL L.length capL), (1, .pointer (some ⟨cb, 0, none⟩)), (5, .slice p2 out.length c2), (6, iV i)] ∧ H = Hs ++ ((cb, chO pl V.length capl (a)) :: D)) (m := _) (⟨0, at_, [], L.length, none, 0, [], Nat.zero_le _, rfl, Nat.le_refl _, by omega, by simp, hT, hT2, OwnT.nil, ⟨rfl, rfl, rfl, rfl, trivial⟩, rfl⟩) ?_; clear hT hT2; rintro m E H ⟨i, a, out, k, p2, c2, Hs, hi, rfl, hk, haa, hol, hT, hT2, hO, hE, rfl⟩; refine W.env hE ?_; refine W_seq fun K5 hK5 => ?_; refine W_seq fun K6 hK6 => ?_; refine W_region ?_; refine xm rfl rfl ?_; refine xm rfl rfl ?_; refine xp (v_len rfl underlying23 rfl) rfl ?_; refine xp (n_lt rfl rfl rfl) rfl ?_
  refine WO_nil (sq_n (hK6 _ _ ?_)); refine W_cond rfl (fun hc0 => ?_) (fun hc0 => ?_)
  · replace hc0 := of_decide_eq_true hc0; obtain ⟨k, rfl⟩ : ∃ j, k = j + 1 := ⟨k - 1, by omega⟩; rw [rruns, if_pos hc0] at hT hT2; dsimp only at hT hT2; obtain ⟨b2, off, c, ty, fz, r, rfl, hat, hcc⟩ := hd (by intro e; subst e; simp at hc0); have hga : ∀ j, j < L.length → c[off + j]? = some (iV (L.getD j 0)) := fun j hj => by rw [hcc j hj, getD_in hj]
    have hgi := getD_le h15 i; refine W_skip (sq_n (hK5 _ _ ?_)); refine W_block ?_; refine W_seq fun K7 hK7 => ?_; refine W_region ?_; refine xa rfl rfl ?_; refine WO_nil (sq_n (hK7 _ _ ?_)); refine W_seq_mid (fun E H => ∃ nn, 1 ≤ nn ∧ i + nn ≤ L.length ∧ rlen L i L.length 1 = nn ∧ Sub E [(0, .slice (some ⟨b2, off, none⟩) L.length capL), (1, .pointer (some ⟨cb, 0, none⟩)), (5, .slice p2 out.length c2), (6, iV i), (7, iV nn)] ∧ H = Hs ++ ((cb, chO pl V.length capl (a)) :: D)) ?_ ?_
    · refine W_block ?_; refine W_loop (fun m E H => ∃ nn, 1 ≤ nn ∧ i + nn ≤ L.length ∧ m = L.length - nn ∧ rlen L i (L.length + 1 - nn) nn = rlen L i L.length 1 ∧ Sub E [(0, .slice (some ⟨b2, off, none⟩) L.length capL), (1, .pointer (some ⟨cb, 0, none⟩)), (5, .slice p2 out.length c2), (6, iV i), (7, iV nn)] ∧ H = Hs ++ ((cb, chO pl V.length capl (a)) :: D)) (m := _) (⟨1, Nat.le_refl _, by omega, rfl, rfl, ⟨rfl, rfl, rfl, rfl, rfl, trivial⟩, rfl⟩) ?_; rintro m E H ⟨nn, hn1, hin, rfl, hml, hE, rfl⟩; refine W.env hE ?_; refine W_seq fun K9 hK9 => ?_; refine W_seq fun K10 hK10 => ?_; by_cases hl2 : i + nn < L.length
      · by_cases hl3 : L.getD (i + nn) 0 = L.getD i 0
        · refine W_draw mixed ?_; refine WA_k (fuel := 0) [0,1,2,3,4,5,6,7,8,9,10,11,12,13,14,15,16,17,18] rfl (by kernel_rfl) ?_; refine ym rfl rfl rfl ?_; refine ym rfl rfl rfl ?_; refine yp rfl (n_add rfl rfl rfl kI (by omega)) rfl ?_; refine ym rfl rfl rfl ?_; refine yp rfl (v_len rfl underlying23 rfl) rfl ?_; refine yp rfl (v_lt rfl rfl rfl (dT (by omega))) rfl ?_; refine ym rfl rfl rfl ?_; refine ym rfl rfl rfl ?_; refine ym rfl rfl rfl ?_; refine ym rfl rfl rfl ?_; refine yp rfl (n_add rfl rfl rfl kI (by omega)) rfl ?_; refine yp rfl (v_ixs rfl underlying23 sizeOf3 rfl rfl (by omega)) rfl ?_; refine yv rfl (v_ld rfl rfl isAgg3 (hga _ (by omega))) rfl ?_; refine ym rfl rfl rfl ?_; refine ym rfl rfl rfl ?_; refine yp rfl (v_ixs rfl underlying23 sizeOf3 rfl rfl (by omega)) rfl ?_; refine yv rfl (v_ld rfl rfl isAgg3 (hga _ (by omega))) rfl ?_
          refine yp rfl (v_eq rfl rfl rfl (dT (by rw [hl3]))) rfl ?_; refine yp rfl (v_pt rfl rfl rfl) rfl ?_; refine WK_nil ?_; refine WA_nil (by kernel_rfl) (sq_n (hK10 _ _ ?_)); refine W_cond_t rfl ?_; refine W_skip (sq_n (hK9 _ _ ?_)); refine W_block ?_; refine W_region ?_; refine xm rfl rfl ?_; refine xp (n_add rfl rfl rfl kI (by omega)) rfl ?_; refine xa rfl rfl ?_; refine WO_nil (bl_n (sq_n (?_))); refine ⟨L.length - (nn + 1), by omega, nn + 1, by omega, by omega, rfl, ?_, ⟨rfl, rfl, rfl, rfl, rfl, trivial⟩, rfl⟩; rw [show L.length + 1 - nn = (L.length + 1 - (nn + 1)) + 1 by omega, rlen, if_pos ⟨hl2, hl3⟩] at hml; exact hml
        · have hml2 : rlen L i L.length 1 = nn := by rw [← hml, show L.length + 1 - nn = (L.length - nn) + 1 by omega, rlen, if_neg (fun h => hl3 h.2)]
          refine W_draw mixed ?_; refine WA_k (fuel := 0) [0,1,2,3,4,5,6,7,8,9,10,11,12,13,14,15,16,17,18] rfl (by kernel_rfl) ?_; refine ym rfl rfl rfl ?_; refine ym rfl rfl rfl ?_; refine yp rfl (n_add rfl rfl rfl kI (by omega)) rfl ?_; refine ym rfl rfl rfl ?_; refine yp rfl (v_len rfl underlying23 rfl) rfl ?_; refine yp rfl (v_lt rfl rfl rfl (dT (by omega))) rfl ?_; refine ym rfl rfl rfl ?_; refine ym rfl rfl rfl ?_; refine ym rfl rfl rfl ?_; refine ym rfl rfl rfl ?_; refine yp rfl (n_add rfl rfl rfl kI (by omega)) rfl ?_; refine yp rfl (v_ixs rfl underlying23 sizeOf3 rfl rfl (by omega)) rfl ?_; refine yv rfl (v_ld rfl rfl isAgg3 (hga _ (by omega))) rfl ?_; refine ym rfl rfl rfl ?_; refine ym rfl rfl rfl ?_; refine yp rfl (v_ixs rfl underlying23 sizeOf3 rfl rfl (by omega)) rfl ?_; refine yv rfl (v_ld rfl rfl isAgg3 (hga _ (by omega))) rfl ?_
          refine yp rfl (v_eq rfl rfl rfl (dF (fun e => hl3 (by exact_mod_cast e)))) rfl ?_; refine yp rfl (v_pt rfl rfl rfl) rfl ?_; refine WK_nil ?_; refine WA_nil (by kernel_rfl) (sq_n (hK10 _ _ ?_)); refine W_cond_f rfl ?_; refine W_exit (sq_x (sq_x (bl_x (sq_n (?_))))); exact ⟨nn, hn1, hin, hml2, ⟨rfl, rfl, rfl, rfl, rfl, trivial⟩, rfl⟩
      · have hml2 : rlen L i L.length 1 = nn := by rw [← hml, show L.length + 1 - nn = (L.length - nn) + 1 by omega, rlen, if_neg (fun h => hl2 h.1)]
        refine W_draw mixed ?_; refine WA_k (fuel := 0) [0,1,2,3,4,5,6,7,8,9,10,11,12,13,14,15,16,17,18] rfl (by kernel_rfl) ?_; refine ym rfl rfl rfl ?_; refine ym rfl rfl rfl ?_; refine yp rfl (n_add rfl rfl rfl kI (by omega)) rfl ?_; refine ym rfl rfl rfl ?_; refine yp rfl (v_len rfl underlying23 rfl) rfl ?_; refine yp rfl (v_lt rfl rfl rfl (dF (by omega))) rfl ?_; refine ym rfl rfl rfl ?_; refine yno rfl rfl ?_; refine yno rfl rfl ?_; refine yno rfl rfl ?_; refine yno rfl rfl ?_; refine yno rfl rfl ?_; refine yno rfl rfl ?_; refine yno rfl rfl ?_; refine yno rfl rfl ?_; refine yno rfl rfl ?_; refine yno rfl rfl ?_; refine yno rfl rfl ?_; refine yp rfl (v_pf rfl rfl rfl) rfl ?_; refine WK_nil ?_; refine WA_nil (by kernel_rfl) (sq_n (hK10 _ _ ?_)); refine W_cond_f rfl ?_; refine W_exit (sq_x (sq_x (bl_x (sq_n (?_))))); exact ⟨nn, hn1, hin, hml2, ⟨rfl, rfl, rfl, rfl, rfl, trivial⟩, rfl⟩
    · rintro E H ⟨nn, hn1, hin, hml2, hE, rfl⟩; refine W.env hE ?_; refine W_seq_mid (fun E H => ∃ p3 c3 Hs3, OwnT 110 p3 c3 (out ++ [(rstep L V i a).1]) Hs3 ∧ Sub E [(0, .slice (some ⟨b2, off, none⟩) L.length capL), (1, .pointer (some ⟨cb, 0, none⟩)), (5, .slice p3 (out ++ [(rstep L V i a).1]).length c3), (6, iV i), (7, iV (rstep L V i a).2.1)] ∧ H = Hs3 ++ ((cb, chO pl V.length capl (rstep L V i a).2.2) :: D)) ?_ ?_
      · refine W_block ?_; refine W_seq_mid (fun E H => ∃ Q, Q = rq1 L V i nn a ∧ Q.2 ≤ a + 1 ∧ Sub E [(0, .slice (some ⟨b2, off, none⟩) L.length capL), (1, .pointer (some ⟨cb, 0, none⟩)), (5, .slice p2 out.length c2), (6, iV i), (7, iV nn), (41, .bool Q.1)] ∧ H = Hs ++ ((cb, chO pl V.length capl (Q.2)) :: D)) ?_ ?_
        · by_cases hz0 : L.getD i 0 = 0
          · by_cases h11 : 11 ≤ nn
            · have hQ : rq1 L V i nn a = (decide (0 < nxt V a 3), a + 1) := by unfold rq1 rq; rw [if_pos (decide_eq_true ⟨hz0, h11⟩)]
              refine W_region ?_; refine xm rfl rfl ?_; refine xm rfl rfl ?_; refine xp (v_ixs rfl underlying23 sizeOf3 rfl rfl (by omega)) rfl ?_; refine xv (v_ld rfl rfl isAgg3 (hga i hc0)) rfl ?_; refine xp (v_eq rfl rfl rfl (dT (by omega))) rfl ?_; refine xm rfl rfl ?_; refine xm rfl rfl ?_; refine xp (v_ge rfl rfl rfl (dT (by omega))) rfl ?_; refine xp (v_pt rfl rfl rfl) rfl ?_; refine xm rfl rfl ?_; refine xm rfl rfl ?_; refine wc (e_c rfl rfl rfl call30) rfl rfl rfl (next_spec hz hV (by decide) (by decide) (by omega) hvl) .behind ?_; rintro _ _ ⟨rfl, rfl⟩; (try simp only); refine xp (n_gt rfl rfl rfl) rfl ?_; refine xp (v_pt rfl rfl rfl) rfl ?_; refine xa rfl rfl ?_; refine WO_nil (sq_n (?_)); exact ⟨_, hQ.symm, by simp only; omega, ⟨rfl, rfl, rfl, rfl, rfl, rfl, trivial⟩, rfl⟩
            · have hQ : rq1 L V i nn a = (false, a) := by unfold rq1 rq; rw [if_neg (by rw [decide_eq_true_eq]; exact fun h => h11 h.2)]
              refine W_region ?_; refine xm rfl rfl ?_; refine xm rfl rfl ?_; refine xp (v_ixs rfl underlying23 sizeOf3 rfl rfl (by omega)) rfl ?_; refine xv (v_ld rfl rfl isAgg3 (hga i hc0)) rfl ?_; refine xp (v_eq rfl rfl rfl (dT (by omega))) rfl ?_; refine xm rfl rfl ?_; refine xm rfl rfl ?_; refine xp (v_ge rfl rfl rfl (dF (by omega))) rfl ?_; refine xp (v_pt rfl rfl rfl) rfl ?_; refine xm rfl rfl ?_; refine xno rfl ?_; refine xno rfl ?_; refine xno rfl ?_; refine xp (v_pf rfl rfl rfl) rfl ?_; refine xa rfl rfl ?_; refine WO_nil (sq_n (?_)); exact ⟨_, hQ.symm, by simp only; omega, ⟨rfl, rfl, rfl, rfl, rfl, rfl, trivial⟩, rfl⟩
          · have hQ : rq1 L V i nn a = (false, a) := by unfold rq1 rq; rw [if_neg (by rw [decide_eq_true_eq]; exact fun h => hz0 h.1)]
            refine W_region ?_; refine xm rfl rfl ?_; refine xm rfl rfl ?_; refine xp (v_ixs rfl underlying23 sizeOf3 rfl rfl (by omega)) rfl ?_; refine xv (v_ld rfl rfl isAgg3 (hga i hc0)) rfl ?_; refine xp (v_eq rfl rfl rfl (dF (by omega))) rfl ?_; refine xm rfl rfl ?_; refine xno rfl ?_; refine xno rfl ?_; refine xp (v_pf rfl rfl rfl) rfl ?_; refine xm rfl rfl ?_; refine xno rfl ?_; refine xno rfl ?_; refine xno rfl ?_; refine xp (v_pf rfl rfl rfl) rfl ?_; refine xa rfl rfl ?_; refine WO_nil (sq_n (?_)); exact ⟨_, hQ.symm, by simp only; omega, ⟨rfl, rfl, rfl, rfl, rfl, rfl, trivial⟩, rfl⟩
        · rintro E H ⟨⟨q1, a1x⟩, hQ, hq1a, hE, rfl⟩; refine W.env hE ?_; dsimp only at hq1a ⊢; refine W_cond rfl (fun hc2 => ?_) (fun hc2 => ?_)
          · subst hc2; have hrs : rstep L V i a = ((18, min nn 138 - 11, 7), min nn 138, a1x) := by
              unfold rstep; rw [hml2, ← hQ]; rfl
            have h11 : 11 ≤ nn := (of_decide_eq_true ((rq_bd (decide (L.getD i 0 = 0 ∧ 11 ≤ nn)) V a).2.2 (by rw [show rq (decide (L.getD i 0 = 0 ∧ 11 ≤ nn)) V a = (true, a1x) from hQ.symm]))).2; refine W_seq fun K13 hK13 => ?_; refine W_region ?_; refine xm rfl rfl ?_; refine xp (n_min rfl rfl rfl) rfl ?_; refine xa rfl rfl ?_; refine WO_nil (sq_n (hK13 _ _ ?_)); refine W_region ?_; refine xm rfl rfl ?_; refine xm rfl rfl ?_; refine xp (n_sub rfl rfl rfl kI (by omega) (by omega)) rfl ?_; refine xp (v_any (.agg (List.toArray [iV 18, iV (min nn 138 - 11), iV 7])) rfl rfl (by intro w; kernel_rfl)) rfl ?_
            refine wappT (bytes := 24) (a := 18) (b := (min nn 138 - 11)) (c := 7) underlying107 sizeOf110 typeInfo110 rfl zeroValue110 rfl hO rfl (by omega) (by omega) (v_bs (List.toArray [iV 18, iV (min nn 138 - 11), iV 7]) 110 1 rfl rfl (by intro w; kernel_rfl)) rfl rfl rfl rfl rfl rfl (fun _ => rfl) (fun _ => rfl) ?_; intro vb p3 c3 Hs3 hO3; refine xa rfl rfl ?_; refine WO_nil (bl_n (sq_n (?_))); rw [hrs]; exact ⟨p3, c3, Hs3, hO3, ⟨rfl, rfl, rfl, rfl, rfl, trivial⟩, rfl⟩
          · subst hc2; refine W_seq_mid (fun E H => ∃ Q, Q = rq2 L V i nn a1x ∧ Q.2 ≤ a + 2 ∧ Sub E [(0, .slice (some ⟨b2, off, none⟩) L.length capL), (1, .pointer (some ⟨cb, 0, none⟩)), (5, .slice p2 out.length c2), (6, iV i), (7, iV nn), (64, .bool Q.1)] ∧ H = Hs ++ ((cb, chO pl V.length capl (Q.2)) :: D)) ?_ ?_
            · by_cases hz0 : L.getD i 0 = 0
              · by_cases h3 : 3 ≤ nn
                · have hQ2 : rq2 L V i nn a1x = (decide (0 < nxt V a1x 3), a1x + 1) := by unfold rq2 rq; rw [if_pos (decide_eq_true ⟨hz0, h3⟩)]
                  refine W_region ?_; refine xm rfl rfl ?_; refine xm rfl rfl ?_; refine xp (v_ixs rfl underlying23 sizeOf3 rfl rfl (by omega)) rfl ?_; refine xv (v_ld rfl rfl isAgg3 (hga i hc0)) rfl ?_; refine xp (v_eq rfl rfl rfl (dT (by omega))) rfl ?_; refine xm rfl rfl ?_; refine xm rfl rfl ?_; refine xp (v_ge rfl rfl rfl (dT (by omega))) rfl ?_; refine xp (v_pt rfl rfl rfl) rfl ?_; refine xm rfl rfl ?_; refine xm rfl rfl ?_; refine wc (e_c rfl rfl rfl call30) rfl rfl rfl (next_spec hz hV (by decide) (by decide) (by omega) hvl) .behind ?_; rintro _ _ ⟨rfl, rfl⟩; (try simp only); refine xp (n_gt rfl rfl rfl) rfl ?_; refine xp (v_pt rfl rfl rfl) rfl ?_; refine xa rfl rfl ?_; refine WO_nil (sq_n (?_)); exact ⟨_, hQ2.symm, by simp only; omega, ⟨rfl, rfl, rfl, rfl, rfl, rfl, trivial⟩, rfl⟩
                · have hQ2 : rq2 L V i nn a1x = (false, a1x) := by unfold rq2 rq; rw [if_neg (by rw [decide_eq_true_eq]; exact fun h => h3 h.2)]
                  refine W_region ?_; refine xm rfl rfl ?_; refine xm rfl rfl ?_; refine xp (v_ixs rfl underlying23 sizeOf3 rfl rfl (by omega)) rfl ?_; refine xv (v_ld rfl rfl isAgg3 (hga i hc0)) rfl ?_; refine xp (v_eq rfl rfl rfl (dT (by omega))) rfl ?_; refine xm rfl rfl ?_; refine xm rfl rfl ?_; refine xp (v_ge rfl rfl rfl (dF (by omega))) rfl ?_; refine xp (v_pt rfl rfl rfl) rfl ?_; refine xm rfl rfl ?_; refine xno rfl ?_; refine xno rfl ?_; refine xno rfl ?_; refine xp (v_pf rfl rfl rfl) rfl ?_; refine xa rfl rfl ?_; refine WO_nil (sq_n (?_)); exact ⟨_, hQ2.symm, by simp only; omega, ⟨rfl, rfl, rfl, rfl, rfl, rfl, trivial⟩, rfl⟩
              · have hQ2 : rq2 L V i nn a1x = (false, a1x) := by unfold rq2 rq; rw [if_neg (by rw [decide_eq_true_eq]; exact fun h => hz0 h.1)]
                refine W_region ?_; refine xm rfl rfl ?_; refine xm rfl rfl ?_; refine xp (v_ixs rfl underlying23 sizeOf3 rfl rfl (by omega)) rfl ?_; refine xv (v_ld rfl rfl isAgg3 (hga i hc0)) rfl ?_; refine xp (v_eq rfl rfl rfl (dF (by omega))) rfl ?_; refine xm rfl rfl ?_; refine xno rfl ?_; refine xno rfl ?_; refine xp (v_pf rfl rfl rfl) rfl ?_; refine xm rfl rfl ?_; refine xno rfl ?_; refine xno rfl ?_; refine xno rfl ?_; refine xp (v_pf rfl rfl rfl) rfl ?_; refine xa rfl rfl ?_; refine WO_nil (sq_n (?_)); exact ⟨_, hQ2.symm, by simp only; omega, ⟨rfl, rfl, rfl, rfl, rfl, rfl, trivial⟩, rfl⟩
            · rintro E H ⟨⟨q2, a2x⟩, hQ2, hq2a, hE, rfl⟩; refine W.env hE ?_; dsimp only at hq2a ⊢; refine W_cond rfl (fun hc3 => ?_) (fun hc3 => ?_)
              · subst hc3; have hrs : rstep L V i a = ((17, min nn 10 - 3, 3), min nn 10, a2x) := by
                  unfold rstep; rw [hml2, ← hQ]; show rstep2 L V i nn (rq2 L V i nn a1x) = _; rw [← hQ2]; rfl
                have h3 : 3 ≤ nn := (of_decide_eq_true ((rq_bd (decide (L.getD i 0 = 0 ∧ 3 ≤ nn)) V a1x).2.2 (by rw [show rq (decide (L.getD i 0 = 0 ∧ 3 ≤ nn)) V a1x = (true, a2x) from hQ2.symm]))).2; refine W_seq fun K15 hK15 => ?_; refine W_region ?_; refine xm rfl rfl ?_; refine xp (n_min rfl rfl rfl) rfl ?_; refine xa rfl rfl ?_; refine WO_nil (sq_n (hK15 _ _ ?_)); refine W_region ?_; refine xm rfl rfl ?_; refine xm rfl rfl ?_; refine xp (n_sub rfl rfl rfl kI (by omega) (by omega)) rfl ?_; refine xp (v_any (.agg (List.toArray [iV 17, iV (min nn 10 - 3), iV 3])) rfl rfl (by intro w; kernel_rfl)) rfl ?_
                refine wappT (bytes := 24) (a := 17) (b := (min nn 10 - 3)) (c := 3) underlying107 sizeOf110 typeInfo110 rfl zeroValue110 rfl hO rfl (by omega) (by omega) (v_bs (List.toArray [iV 17, iV (min nn 10 - 3), iV 3]) 110 1 rfl rfl (by intro w; kernel_rfl)) rfl rfl rfl rfl rfl rfl (fun _ => rfl) (fun _ => rfl) ?_; intro vb p3 c3 Hs3 hO3; refine xa rfl rfl ?_; refine WO_nil (bl_n (sq_n (?_))); rw [hrs]; exact ⟨p3, c3, Hs3, hO3, ⟨rfl, rfl, rfl, rfl, rfl, trivial⟩, rfl⟩
              · subst hc3; refine W_seq_mid (fun E H => ∃ Q, Q = rq3 L V i nn a2x ∧ Q.2 ≤ a + 3 ∧ Sub E [(0, .slice (some ⟨b2, off, none⟩) L.length capL), (1, .pointer (some ⟨cb, 0, none⟩)), (5, .slice p2 out.length c2), (6, iV i), (7, iV nn), (87, .bool Q.1)] ∧ H = Hs ++ ((cb, chO pl V.length capl (Q.2)) :: D)) ?_ ?_
                · by_cases hi0 : 0 < i
                  · have hgi2 := getD_le h15 (i - 1); by_cases he : L.getD i 0 = L.getD (i - 1) 0
                    · by_cases h3 : 3 ≤ nn
                      · have hQ3 : rq3 L V i nn a2x = (decide (0 < nxt V a2x 3), a2x + 1) := by unfold rq3 rq; rw [if_pos (decide_eq_true ⟨hi0, he, h3⟩)]
                        refine W_draw mixed ?_; refine WA_k (fuel := 4) [0,1,2,3,4,5,6,7,8,9,10,11,12,13,14,15,16,17,18,19] rfl (by kernel_rfl) ?_; refine ym rfl rfl rfl ?_; refine yp rfl (v_gt rfl rfl rfl (dT (by omega))) rfl ?_; refine ym rfl rfl rfl ?_; refine ym rfl rfl rfl ?_; refine ym rfl rfl rfl ?_; refine yp rfl (v_ixs rfl underlying23 sizeOf3 rfl rfl (by omega)) rfl ?_; refine yv rfl (v_ld rfl rfl isAgg3 (hga i hc0)) rfl ?_; refine ym rfl rfl rfl ?_; refine ym rfl rfl rfl ?_; refine yp rfl (n_sub rfl rfl rfl kI (by omega) (by omega)) rfl ?_; refine yp rfl (v_ixs rfl underlying23 sizeOf3 rfl rfl (by omega)) rfl ?_; refine yv rfl (v_ld rfl rfl isAgg3 (hga (i - 1) (by omega))) rfl ?_; refine yp rfl (v_eq rfl rfl rfl (dT (by rw [he]))) rfl ?_; refine yp rfl (v_pt rfl rfl rfl) rfl ?_; refine ym rfl rfl rfl ?_; refine ym rfl rfl rfl ?_
                        refine yp rfl (v_ge rfl rfl rfl (dT (by omega))) rfl ?_; refine yp rfl (v_pt rfl rfl rfl) rfl ?_; refine ym rfl rfl rfl ?_; refine ym rfl rfl rfl ?_; refine WK_nil ?_; refine WA_one (k := 20) rfl (by kernel_rfl) ?_; refine wc (e_c rfl rfl rfl call30) rfl rfl rfl (next_spec hz hV (by decide) (by decide) (by omega) hvl) .behind ?_; rintro _ _ ⟨rfl, rfl⟩; (try simp only); refine WO_nil (sq_n ?_); refine WA_k (fuel := 0) [21,22,23] rfl (by kernel_rfl) ?_; refine yp rfl (n_gt rfl rfl rfl) rfl ?_; refine yp rfl (v_pt rfl rfl rfl) rfl ?_; refine yp rfl (v_as rfl rfl) rfl ?_; refine WK_nil ?_; refine WA_nil (by kernel_rfl) (sq_n (?_)); exact ⟨_, hQ3.symm, by simp only; omega, ⟨rfl, rfl, rfl, rfl, rfl, rfl, trivial⟩, rfl⟩
                      · have hQ3 : rq3 L V i nn a2x = (false, a2x) := by unfold rq3 rq; rw [if_neg (by rw [decide_eq_true_eq]; exact fun h => h3 h.2.2)]
                        refine W_draw mixed ?_; refine WA_k (fuel := 4) [0,1,2,3,4,5,6,7,8,9,10,11,12,13,14,15,16,17,18,19] rfl (by kernel_rfl) ?_; refine ym rfl rfl rfl ?_; refine yp rfl (v_gt rfl rfl rfl (dT (by omega))) rfl ?_; refine ym rfl rfl rfl ?_; refine ym rfl rfl rfl ?_; refine ym rfl rfl rfl ?_; refine yp rfl (v_ixs rfl underlying23 sizeOf3 rfl rfl (by omega)) rfl ?_; refine yv rfl (v_ld rfl rfl isAgg3 (hga i hc0)) rfl ?_; refine ym rfl rfl rfl ?_; refine ym rfl rfl rfl ?_; refine yp rfl (n_sub rfl rfl rfl kI (by omega) (by omega)) rfl ?_; refine yp rfl (v_ixs rfl underlying23 sizeOf3 rfl rfl (by omega)) rfl ?_; refine yv rfl (v_ld rfl rfl isAgg3 (hga (i - 1) (by omega))) rfl ?_; refine yp rfl (v_eq rfl rfl rfl (dT (by rw [he]))) rfl ?_; refine yp rfl (v_pt rfl rfl rfl) rfl ?_; refine ym rfl rfl rfl ?_; refine ym rfl rfl rfl ?_
                        refine yp rfl (v_ge rfl rfl rfl (dF (by omega))) rfl ?_; refine yp rfl (v_pt rfl rfl rfl) rfl ?_; refine ym rfl rfl rfl ?_; refine yno rfl rfl ?_; refine WK_nil ?_; refine WA_one (k := 20) rfl (by kernel_rfl) ?_; refine xno rfl ?_; refine WO_nil (sq_n ?_); refine WA_k (fuel := 0) [21,22,23] rfl (by kernel_rfl) ?_; refine yno rfl rfl ?_; refine yp rfl (v_pf rfl rfl rfl) rfl ?_; refine yp rfl (v_as rfl rfl) rfl ?_; refine WK_nil ?_; refine WA_nil (by kernel_rfl) (sq_n (?_)); exact ⟨_, hQ3.symm, by simp only; omega, ⟨rfl, rfl, rfl, rfl, rfl, rfl, trivial⟩, rfl⟩
                    · have hQ3 : rq3 L V i nn a2x = (false, a2x) := by unfold rq3 rq; rw [if_neg (by rw [decide_eq_true_eq]; exact fun h => he h.2.1)]
                      refine W_draw mixed ?_; refine WA_k (fuel := 4) [0,1,2,3,4,5,6,7,8,9,10,11,12,13,14,15,16,17,18,19] rfl (by kernel_rfl) ?_; refine ym rfl rfl rfl ?_; refine yp rfl (v_gt rfl rfl rfl (dT (by omega))) rfl ?_; refine ym rfl rfl rfl ?_; refine ym rfl rfl rfl ?_; refine ym rfl rfl rfl ?_; refine yp rfl (v_ixs rfl underlying23 sizeOf3 rfl rfl (by omega)) rfl ?_; refine yv rfl (v_ld rfl rfl isAgg3 (hga i hc0)) rfl ?_; refine ym rfl rfl rfl ?_; refine ym rfl rfl rfl ?_; refine yp rfl (n_sub rfl rfl rfl kI (by omega) (by omega)) rfl ?_; refine yp rfl (v_ixs rfl underlying23 sizeOf3 rfl rfl (by omega)) rfl ?_; refine yv rfl (v_ld rfl rfl isAgg3 (hga (i - 1) (by omega))) rfl ?_; refine yp rfl (v_eq rfl rfl rfl (dF (fun e => he (by exact_mod_cast e)))) rfl ?_; refine yp rfl (v_pt rfl rfl rfl) rfl ?_; refine ym rfl rfl rfl ?_; refine yno rfl rfl ?_; refine yno rfl rfl ?_
                      refine yp rfl (v_pf rfl rfl rfl) rfl ?_; refine ym rfl rfl rfl ?_; refine yno rfl rfl ?_; refine WK_nil ?_; refine WA_one (k := 20) rfl (by kernel_rfl) ?_; refine xno rfl ?_; refine WO_nil (sq_n ?_); refine WA_k (fuel := 0) [21,22,23] rfl (by kernel_rfl) ?_; refine yno rfl rfl ?_; refine yp rfl (v_pf rfl rfl rfl) rfl ?_; refine yp rfl (v_as rfl rfl) rfl ?_; refine WK_nil ?_; refine WA_nil (by kernel_rfl) (sq_n (?_)); exact ⟨_, hQ3.symm, by simp only; omega, ⟨rfl, rfl, rfl, rfl, rfl, rfl, trivial⟩, rfl⟩
                  · have hQ3 : rq3 L V i nn a2x = (false, a2x) := by unfold rq3 rq; rw [if_neg (by rw [decide_eq_true_eq]; exact fun h => hi0 h.1)]
                    refine W_draw mixed ?_; refine WA_k (fuel := 4) [0,1,2,3,4,5,6,7,8,9,10,11,12,13,14,15,16,17,18,19] rfl (by kernel_rfl) ?_; refine ym rfl rfl rfl ?_; refine yp rfl (v_gt rfl rfl rfl (dF (by omega))) rfl ?_; refine ym rfl rfl rfl ?_; refine yno rfl rfl ?_; refine yno rfl rfl ?_; refine yno rfl rfl ?_; refine yno rfl rfl ?_; refine yno rfl rfl ?_; refine yno rfl rfl ?_; refine yno rfl rfl ?_; refine yno rfl rfl ?_; refine yno rfl rfl ?_; refine yno rfl rfl ?_; refine yp rfl (v_pf rfl rfl rfl) rfl ?_; refine ym rfl rfl rfl ?_; refine yno rfl rfl ?_; refine yno rfl rfl ?_; refine yp rfl (v_pf rfl rfl rfl) rfl ?_; refine ym rfl rfl rfl ?_; refine yno rfl rfl ?_; refine WK_nil ?_; refine WA_one (k := 20) rfl (by kernel_rfl) ?_; refine xno rfl ?_; refine WO_nil (sq_n ?_); refine WA_k (fuel := 0) [21,22,23] rfl (by kernel_rfl) ?_; refine yno rfl rfl ?_
                    refine yp rfl (v_pf rfl rfl rfl) rfl ?_; refine yp rfl (v_as rfl rfl) rfl ?_; refine WK_nil ?_; refine WA_nil (by kernel_rfl) (sq_n (?_)); exact ⟨_, hQ3.symm, by simp only; omega, ⟨rfl, rfl, rfl, rfl, rfl, rfl, trivial⟩, rfl⟩
                · rintro E H ⟨⟨q3, a3x⟩, hQ3, hq3a, hE, rfl⟩; refine W.env hE ?_; dsimp only at hq3a ⊢; refine W_cond rfl (fun hc4 => ?_) (fun hc4 => ?_)
                  · subst hc4; have hrs : rstep L V i a = ((16, min nn 6 - 3, 2), min nn 6, a3x) := by
                      unfold rstep; rw [hml2, ← hQ]; show rstep2 L V i nn (rq2 L V i nn a1x) = _; rw [← hQ2]; show rstep3 L V i nn (rq3 L V i nn a2x) = _; rw [← hQ3]; rfl
                    have h3 : 3 ≤ nn := (of_decide_eq_true ((rq_bd (decide (0 < i ∧ L.getD i 0 = L.getD (i - 1) 0 ∧ 3 ≤ nn)) V a2x).2.2 (by rw [show rq (decide (0 < i ∧ L.getD i 0 = L.getD (i - 1) 0 ∧ 3 ≤ nn)) V a2x = (true, a3x) from hQ3.symm]))).2.2; refine W_seq fun K17 hK17 => ?_; refine W_region ?_; refine xm rfl rfl ?_; refine xp (n_min rfl rfl rfl) rfl ?_; refine xa rfl rfl ?_; refine WO_nil (sq_n (hK17 _ _ ?_)); refine W_region ?_; refine xm rfl rfl ?_; refine xm rfl rfl ?_; refine xp (n_sub rfl rfl rfl kI (by omega) (by omega)) rfl ?_; refine xp (v_any (.agg (List.toArray [iV 16, iV (min nn 6 - 3), iV 2])) rfl rfl (by intro w; kernel_rfl)) rfl ?_
                    refine wappT (bytes := 24) (a := 16) (b := (min nn 6 - 3)) (c := 2) underlying107 sizeOf110 typeInfo110 rfl zeroValue110 rfl hO rfl (by omega) (by omega) (v_bs (List.toArray [iV 16, iV (min nn 6 - 3), iV 2]) 110 1 rfl rfl (by intro w; kernel_rfl)) rfl rfl rfl rfl rfl rfl (fun _ => rfl) (fun _ => rfl) ?_; intro vb p3 c3 Hs3 hO3; refine xa rfl rfl ?_; refine WO_nil (bl_n (sq_n (?_))); rw [hrs]; exact ⟨p3, c3, Hs3, hO3, ⟨rfl, rfl, rfl, rfl, rfl, trivial⟩, rfl⟩
                  · subst hc4; have hrs : rstep L V i a = ((L.getD i 0, 0, 0), 1, a3x) := by
                      unfold rstep; rw [hml2, ← hQ]; show rstep2 L V i nn (rq2 L V i nn a1x) = _; rw [← hQ2]; show rstep3 L V i nn (rq3 L V i nn a2x) = _; rw [← hQ3]; rfl
                    refine W_seq fun K18 hK18 => ?_; refine W_region ?_; refine xa rfl rfl ?_; refine WO_nil (sq_n (hK18 _ _ ?_)); refine W_region ?_; refine xm rfl rfl ?_; refine xm rfl rfl ?_; refine xm rfl rfl ?_; refine xp (v_ixs rfl underlying23 sizeOf3 rfl rfl (by omega)) rfl ?_; refine xv (v_ld rfl rfl isAgg3 (hga i hc0)) rfl ?_; refine xp (v_any (.agg (List.toArray [iV (L.getD i 0), iV 0, iV 0])) rfl rfl (by intro w; kernel_rfl)) rfl ?_; refine wappT (bytes := 24) (a := (L.getD i 0)) (b := 0) (c := 0) underlying107 sizeOf110 typeInfo110 rfl zeroValue110 rfl hO rfl (by omega) (by omega) (v_bs (List.toArray [iV (L.getD i 0), iV 0, iV 0]) 110 1 rfl rfl (by intro w; kernel_rfl)) rfl rfl rfl rfl rfl rfl (fun _ => rfl) (fun _ => rfl) ?_; intro vb p3 c3 Hs3 hO3; refine xa rfl rfl ?_; refine WO_nil (bl_n (sq_n (?_))); rw [hrs]
                    exact ⟨p3, c3, Hs3, hO3, ⟨rfl, rfl, rfl, rfl, rfl, trivial⟩, rfl⟩
      · rintro E H ⟨p3, c3, Hs3, hO3, hE, rfl⟩; refine W.env hE ?_; obtain ⟨f1, f2, f3, f4, f5⟩ := rstep_ok h15 V i a hc0; refine W_region ?_; refine xm rfl rfl ?_; refine xm rfl rfl ?_; refine xp (n_add rfl rfl rfl kI (by omega)) rfl ?_; refine xa rfl rfl ?_; refine WO_nil (bl_n (sq_n (?_))); skip; obtain ⟨g1, g2, g3, g4, g5⟩ := rstep_ok h15 V i a hc0; refine ⟨L.length - _, ?_, _, _, _, k, p3, c3, Hs3, g3, rfl, by omega, by omega, by rw [List.length_append, List.length_singleton]; omega, by rw [List.append_assoc]; exact hT, hT2, hO3, ⟨rfl, rfl, rfl, rfl, trivial⟩, rfl⟩; omega
  · replace hc0 := of_decide_eq_false hc0; obtain rfl : i = L.length := by omega
    have hTe : (rruns L V k L.length a).1 = [] ∧ (rruns L V k L.length a).2 = a := by
      cases k with
      | zero => exact ⟨rfl, rfl⟩
      | succ k => rw [rruns, if_neg (Nat.lt_irrefl _)]; exact ⟨rfl, rfl⟩
    rw [hTe.1, List.append_nil] at hT; rw [hTe.2] at hT2; subst hT hT2; refine W_exit (sq_x (sq_x (bl_x (sq_n (hK3 _ _ ?_))))); refine W.keep [5] rfl ?_; refine W_seq fun K19 hK19 => ?_; refine W_region ?_; refine xm rfl rfl ?_; refine xa rfl rfl ?_; refine WO_nil (sq_n (hK19 _ _ ?_)); refine W_ret (ret_of (v := _) rfl ?_); exact ⟨p2, c2, Hs, rfl, hO, rfl⟩
end
end Go.Proofs.YtpbahgddoamhgaaGreatDoor
namespace Go.Proofs.YtpbahgddoamhgaaGreatDoor
open Go.Proofs.Tryz
open Go Sx Pu
set_option maxRecDepth 10000

namespace Pu
/-- one token, written -/
def wtok (C1 C2 L1 L2 : List Nat) (s : WS) (t : T3) : WS :=
  if t.2.1 = 0 then wcode s (C1.getD t.1 0) (L1.getD t.1 0)
  else wbits (wcode (wbits (wcode s (C1.getD (lsym t.2.2) 0) (L1.getD (lsym t.2.2) 0)) (lmore t.2.2) (lext t.2.2)) (C2.getD (dsym t.2.1) 0) (L2.getD (dsym t.2.1) 0)) (t.2.1 - distBase (dsym t.2.1)) (distExtra (dsym t.2.1))
def wbody (L1 L2 : List Nat) (T : List T3) (s : WS) : WS :=
  wcode (T.foldl (wtok (codesL L1) (codesL L2) L1 L2) s) ((codesL L1).getD 256 0) (L1.getD 256 0)
theorem lext_bd {l : Nat} (h : 3 ≤ l) : lext l ≤ 5 := by
  unfold lext; split
  · omega
  · have := lsym_bd h; exact (len_table (lsym l) (by unfold lsym; rename_i h2; rw [if_neg h2]; have := symD_bd (base := lenBase) (v := l) (lo := 257) h 27; omega) this.1).2.1
theorem wtok_ok {C1 C2 L1 L2 : List Nat} {s : WS} {t : T3} (h : WOk s) (ht : TokOk t) (h1 : ∀ x ∈ L1, x ≤ 15) (h2 : ∀ x ∈ L2, x ≤ 15) : WOk (wtok C1 C2 L1 L2 s t) ∧ s.2 ≤ (wtok C1 C2 L1 L2 s t).2 ∧ (wtok C1 C2 L1 L2 s t).2 ≤ s.2 + 48 := by
  have a1 := getD_le h1 t.1; have a2 := getD_le h1 (lsym t.2.2); have a3 := getD_le h2 (dsym t.2.1); unfold wtok
  split
  · exact ⟨wcode_ok _ h, by rw [wcode_at]; omega, by rw [wcode_at]; omega⟩
  · rename_i hf; rcases ht with ⟨h3, _⟩ | ⟨h3, h4, h5, h6⟩
    · exact absurd h3 hf
    · have b1 := lext_bd h5; have b2 := (dist_table (dsym t.2.1) (by have := dsym_bd h3; omega)).2.1; exact ⟨wbits_ok (wcode_ok _ (wbits_ok (wcode_ok _ h) _ _)) _ _, by rw [wbits_at, wcode_at, wbits_at, wcode_at]; omega, by rw [wbits_at, wcode_at, wbits_at, wcode_at]; omega⟩
theorem wtoks_ok {C1 C2 L1 L2 : List Nat} (h1 : ∀ x ∈ L1, x ≤ 15) (h2 : ∀ x ∈ L2, x ≤ 15) : ∀ (T : List T3) {s : WS}, WOk s → (∀ t ∈ T, TokOk t) → WOk (T.foldl (wtok C1 C2 L1 L2) s) ∧ s.2 ≤ (T.foldl (wtok C1 C2 L1 L2) s).2 ∧ (T.foldl (wtok C1 C2 L1 L2) s).2 ≤ s.2 + 48 * T.length
  | [], s, h, _ => ⟨h, Nat.le_refl _, Nat.le_refl _⟩
  | t :: T, s, h, ht => by
    obtain ⟨a1, a2, a3⟩ := wtok_ok (C1 := C1) (C2 := C2) h (ht t (by simp)) h1 h2; obtain ⟨b1, b2, b3⟩ := wtoks_ok (C1 := C1) (C2 := C2) h1 h2 T a1 fun u hu => ht u (by simp [hu]); refine ⟨b1, by rw [List.foldl_cons]; omega, by rw [List.foldl_cons, List.length_cons]; omega⟩
theorem wbody_ok {L1 L2 : List Nat} {T : List T3} {s : WS} (h : WOk s) (ht : ∀ t ∈ T, TokOk t) (h1 : ∀ x ∈ L1, x ≤ 15) (h2 : ∀ x ∈ L2, x ≤ 15) : WOk (wbody L1 L2 T s) ∧ s.2 ≤ (wbody L1 L2 T s).2 ∧ (wbody L1 L2 T s).2 ≤ s.2 + 48 * T.length + 15 := by
  obtain ⟨a1, a2, a3⟩ := wtoks_ok (C1 := codesL L1) (C2 := codesL L2) h1 h2 T h ht; have := getD_le h1 256; unfold wbody; exact ⟨wcode_ok _ a1, by rw [wcode_at]; omega, by rw [wcode_at]; omega⟩
theorem codesL_lt {L : List Nat} (hL : L.length ≤ 320) (i : Nat) : (codesL L).getD i 0 < 2 ^ 63 := by
  rcases Nat.lt_or_ge i (codesL L).length with h | h
  · rw [getD_in h]; simp only [codesL, List.getElem_map, List.getElem_range]; unfold codeOf
    split
    · rename_i h1; have := cn_bd hL (j := L.getD i 0 - 1) (by omega); have := rank_le L (L.getD i 0) i; have hi : i < L.length := by simpa [codesL] using h
      omega
    · decide
  · rw [List.getD_eq_getElem?_getD, List.getElem?_eq_none h]; decide
theorem codesL_length (L : List Nat) : (codesL L).length = L.length := by simp [codesL]
end Pu
section
variable {n : Nat} {E : El} {H : Hl} {o : Oper} {x : Operand} {P : Program}
theorem v_lda {t : TypeId} {z p b : Nat} {c vs : List Value} {ty : TypeId} {fz : Nat × Nat} {r : Obj → Hl} (ho : o.op = .load t x) (hx : ev E x = some (.pointer (some ⟨b, p, none⟩))) (hagg : ∀ w, (isAgg t).run P w = .ok true w) (hz : ∀ w, (sizeOf t).run P w = .ok z w)
    (ha : AtH H b (.cells c.toArray ty fz) r) (hl : vs.length = z) (hc : ∀ j, j < z → c[p + j]? = vs[j]?) : OV P n E H o (.agg vs.toArray) := fun O F a w hag hp => by
  have hr := Sx.run_loadCellsFrom (P := P) (w := w) (p := p) (b := b) vs 0 #[] (fun j hj => by
    rw [Nat.add_zero, cell_of (v := vs[j]) hp ha (by rw [hc j (by omega)]; simp [hj])]; simp [hj])
  subst hl; simp [execOp, ho, ev_sound hag hx, Instr.loadAt, Instr.sureAddr, loadVar, hagg, hz, loadCells, hr]
end
theorem zv101 (w : World) : (zeroValue 101).run Tryz.prog w = .ok (.agg (List.toArray [iV 0, iV 0, iV 0])) w := by kernel_rfl
theorem zv110 (w : World) : (zeroValue 110).run Tryz.prog w = .ok (.agg (List.toArray [iV 0, iV 0, iV 0])) w := by kernel_rfl
section
variable {D : Hl} {w cap1 cap2 capT : Nat} {pT p1 p2 : Option Addr} {T : List T3} {L1 L2 : List Nat} {s : WS} {G : Hl}
set_option maxHeartbeats 4000000 in
theorem body_spec (hT : DatT pT T D) (hTo : ∀ t ∈ T, TokOk t) (hTl : T.length < 2 ^ 32) (h1 : DatI p1 L1 D) (h1l : 286 ≤ L1.length ∧ L1.length ≤ 320) (h115 : ∀ x ∈ L1, x ≤ 15) (h2 : DatI p2 L2 D) (h2l : 30 ≤ L2.length ∧ L2.length ≤ 320) (h215 : ∀ x ∈ L2, x ≤ 15)
    (hw : WOk s) (hG : WH w s G) (hb : s.1.length < 2 ^ 44) :
    CallsL Tryz.prog 35 #[.pointer (some ⟨w, 0, none⟩), .slice pT T.length capT, .slice p1 L1.length cap1, .slice p2 L2.length cap2] (D ++ G) fun _ H' => ∃ X G', WH w (wbody L1 L2 T s) G' ∧ H' = X ++ (D ++ G') := by
  obtain ⟨C1, hC1⟩ : ∃ C, codesL L1 = C := ⟨_, rfl⟩; obtain ⟨C2, hC2⟩ : ∃ C, codesL L2 = C := ⟨_, rfl⟩; have hl1 : C1.length = L1.length := by rw [← hC1]; exact codesL_length L1
  have hl2 : C2.length = L2.length := by rw [← hC2]; exact codesL_length L2
  have hcb1 : ∀ i, C1.getD i 0 < 2 ^ 63 := fun i => by rw [← hC1]; exact codesL_lt h1l.2 i
  have hcb2 : ∀ i, C2.getD i 0 < 2 ^ 63 := fun i => by rw [← hC2]; exact codesL_lt h2l.2 i
  have h3 := hw.le; have h4 := hw.lt; obtain ⟨q1, o1, k1, ty1, fz1, r1, rfl, hat1, hcc1⟩ := h1 (by intro e; subst e; simp at h1l); obtain ⟨q2, o2, k2, ty2, fz2, r2, rfl, hat2, hcc2⟩ := h2 (by intro e; subst e; simp at h2l); have hg1 : ∀ j, j < L1.length → k1[o1 + j]? = some (iV (L1.getD j 0)) := fun j hj => by rw [hcc1 j hj, getD_in hj]
  have hg2 : ∀ j, j < L2.length → k2[o2 + j]? = some (iV (L2.getD j 0)) := fun j hj => by rw [hcc2 j hj, getD_in hj]
  have hat1o := hat1; have hat2o := hat2; refine CallsL_of func35 rfl ntmps35 rfl ?_
  try dsimp only [initE, Nat.zero_add]
  refine W_seq fun K1 hK1 => ?_; refine W_region ?_; refine xm rfl rfl ?_; refine wc (e_c rfl rfl rfl call44) rfl rfl rfl (codes_spec ((h1).appl G) h1l.2) .all ?_; rintro _ _ ⟨b1, rfl, rfl⟩; rw [hC1]; (try simp only [ap4]); refine xm rfl rfl ?_; refine wc (e_c rfl rfl rfl call44) rfl rfl rfl (codes_spec (((h2).appl G).cons _) h2l.2) .all ?_; rintro _ _ ⟨b2, rfl, rfl⟩; rw [hC2]; (try simp only [ap4]); refine xa rfl rfl ?_; refine xa rfl rfl ?_; refine WO_nil (sq_n (hK1 _ _ ?_)); refine W.keep [0,1,2,3,8,9] rfl ?_; refine W_seq fun K2 hK2 => ?_; refine W_seq fun K3 hK3 => ?_; refine W_region ?_; refine xm rfl rfl ?_; refine xp (v_len rfl underlying72 rfl) rfl ?_; refine xm rfl rfl ?_; refine WO_nil (sq_n (hK3 _ _ ?_)); refine W_block ?_
  refine W_loop (fun m E H => ∃ i t G, i ≤ T.length ∧ m = T.length - i ∧ WOk t ∧ t.2 ≤ s.2 + 48 * i ∧ (T.drop i).foldl (wtok C1 C2 L1 L2) t = T.foldl (wtok C1 C2 L1 L2) s ∧ WH w t G ∧ Sub E [(0, .pointer (some ⟨w, 0, none⟩)), (2, .slice (some ⟨q1, o1, none⟩) L1.length cap1), (3, .slice (some ⟨q2, o2, none⟩) L2.length cap2), (8, .slice (some ⟨b1, 0, none⟩) L1.length L1.length), (9, .slice (some ⟨b2, 0, none⟩) L2.length L2.length), (19, .slice pT T.length capT), (20, iV T.length), (21, iV i)] ∧ H = (b2, .cells (List.toArray (C2.map iV)) 3 (0, 0)) :: (b1, .cells (List.toArray (C1.map iV)) 3 (0, 0)) :: (D ++ G)) (m := _) (⟨0, s, G, Nat.zero_le _, rfl, hw, by omega, rfl, hG, ⟨rfl, rfl, rfl, rfl, rfl, rfl, rfl, rfl, trivial⟩, rfl⟩) ?_; clear hG; rintro m E H ⟨i, t, G, hi, rfl, hwt, hta, hfo, hG, hE, rfl⟩; refine W.env hE ?_; have hat1 := AtH.appl (D := G) hat1o
  have hat2 := AtH.appl (D := G) hat2o; have g3 := hwt.le; have g4 := hwt.lt; refine W_seq fun K4 hK4 => ?_; refine W_region ?_; refine xp (n_lt rfl rfl rfl) rfl ?_; refine WO_nil (sq_n (hK4 _ _ ?_)); refine W_seq fun K5 hK5 => ?_; refine W_cond rfl (fun hc0 => ?_) (fun hc0 => ?_)
  · replace hc0 := of_decide_eq_true hc0; obtain ⟨q3, k3, ty3, fz3, r3, rfl, hat3, hcc3⟩ := hT (by intro e; subst e; simp at hc0); obtain ⟨u1, u2, u3⟩ := hcc3 i hc0; have hti := hTo _ (List.getElem_mem hc0); rw [List.drop_eq_getElem_cons hc0, List.foldl_cons] at hfo; generalize T[i] = tt at *; obtain ⟨ta, tb, tc⟩ := tt; dsimp only at u1 u2 u3; have hat3 := AtH.appl (D := G) hat3; obtain ⟨v1, v2, v3⟩ := wtok_ok (C1 := C1) (C2 := C2) hwt hti h115 h215; have hd1 := fun x => getD_le h115 x; have hd2 := fun x => getD_le h215 x; refine W_skip (sq_n (hK5 _ _ ?_)); refine W_seq fun K6 hK6 => ?_; refine W_block ?_; refine W_seq fun K7 hK7 => ?_; refine W_region ?_; refine xp (v_ixs rfl underlying72 sizeOf101 rfl rfl (by omega)) rfl ?_; refine wv (v_lda (z := 3) (vs := [iV ta, iV tb, iV tc]) rfl rfl isAgg101 sizeOf101 (AtH.there (h := AtH.there (h := hat3))) rfl (fun j hj => by
      match j, hj with
      | 0, _ => rw [Nat.add_zero]; simpa using u1
      | 1, _ => simpa using u2
      | 2, _ => simpa using u3)) rfl rfl rfl ?_
    refine wf (v_ala rfl zv101) rfl rfl rfl ?_; intro tb0 _; refine wsn (v_sta (c' := [iV ta, iV tb, iV tc]) rfl rfl rfl sizeOf101 rfl (fun v hv => List.all_eq_true.1 (show List.all _ one = true from rfl) v hv) rfl (Nat.le_of_ble_eq_true rfl)) rfl rfl ?_; rintro _ _ ⟨rfl, rfl⟩; refine WO_nil (sq_n (hK7 _ _ ?_)); refine W_seq fun K8 hK8 => ?_; refine W_seq fun K9 hK9 => ?_; refine W_region ?_; refine xp (v_fa (q := 1) rfl underlying101 rfl rfl sizeOf3 rfl) rfl ?_; refine xv (ld rfl rfl isAgg3) rfl ?_; refine xp (n_eq rfl rfl rfl) rfl ?_; refine WO_nil (sq_n (hK9 _ _ ?_)); refine W_cond rfl (fun hc1 => ?_) (fun hc1 => ?_)
    · replace hc1 := of_decide_eq_true hc1; have htk : wtok C1 C2 L1 L2 t (ta, tb, tc) = wcode t (C1.getD ta 0) (L1.getD ta 0) := by unfold wtok; rw [if_pos hc1]
      have hta2 : ta < 256 := by rcases hti with h | h; exact h.2; exact absurd hc1 (by have := h.1; simp only at this; omega)
      refine W_seq fun K10 hK10 => ?_; refine W_draw mixed ?_; refine WA_k (fuel := 1) [0,1,2,3,4,5,6,7,8,9,10] rfl (by kernel_rfl) ?_; refine ym rfl rfl rfl ?_; refine ym rfl rfl rfl ?_; refine yp rfl (v_fa (q := 0) rfl underlying101 rfl rfl sizeOf3 rfl) rfl ?_; refine yv rfl (ld rfl rfl isAgg3) rfl ?_; refine yp rfl (v_ixs rfl underlying23 sizeOf3 rfl rfl (by omega)) rfl ?_; refine yv rfl (v_ld rfl rfl isAgg3 (ints_at (by omega))) rfl ?_; refine ym rfl rfl rfl ?_; refine yp rfl (v_fa (q := 0) rfl underlying101 rfl rfl sizeOf3 rfl) rfl ?_; refine yv rfl (ld rfl rfl isAgg3) rfl ?_; refine yp rfl (v_ixs rfl underlying23 sizeOf3 rfl rfl (by omega)) rfl ?_; refine yv rfl (v_ld rfl rfl isAgg3 (hg1 _ (by omega))) rfl ?_; refine WK_nil ?_; refine WA_one (k := 11) rfl (by kernel_rfl) ?_
      refine wc (e_c rfl rfl rfl call45) rfl rfl rfl (wcode_spec hwt hG (hcb1 _) (by have := hd1 ta; omega) (by omega)) (.behind (A := _ :: _ :: _ :: _)) ?_; intro _ G2 hG2; (try simp only [ap4]); refine WO_nil (sq_n ?_); refine WA_nil (by kernel_rfl) (sq_n (hK10 _ _ ?_)); refine W_exit (sq_x (bl_x (sq_n (hK6 _ _ ?_)))); refine W.drop (.skip .all) ?_; refine W_region ?_; refine xp (n_add rfl rfl rfl kI (by omega)) rfl ?_; refine xm rfl rfl ?_; refine WO_nil (sq_n (?_)); first
      | (have hq := hG5; exact ⟨T.length - (i + 1), by omega, i + 1, _, _, by omega, rfl, v1, by omega, hfo, by rw [htk]; exact hG5, ⟨rfl, rfl, rfl, rfl, rfl, rfl, rfl, rfl, trivial⟩, rfl⟩)
      | exact ⟨T.length - (i + 1), by omega, i + 1, _, _, by omega, rfl, v1, by omega, hfo, by rw [htk]; exact hG2, ⟨rfl, rfl, rfl, rfl, rfl, rfl, rfl, rfl, trivial⟩, rfl⟩
    · replace hc1 := of_decide_eq_false hc1; obtain ⟨j1, j2, j3, j4⟩ : 1 ≤ tb ∧ tb ≤ 32768 ∧ 3 ≤ tc ∧ tc ≤ 258 := by rcases hti with h | h; exact absurd h.1 hc1; exact h
      have hls := lsym_bd j3; have hds := dsym_bd j1; have hle := lext_bd j3; have hde := (dist_table (dsym tb) (by omega)).2.1; have htk : wtok C1 C2 L1 L2 t (ta, tb, tc) = wbits (wcode (wbits (wcode t (C1.getD (lsym tc) 0) (L1.getD (lsym tc) 0)) (lmore tc) (lext tc)) (C2.getD (dsym tb) 0) (L2.getD (dsym tb) 0)) (tb - distBase (dsym tb)) (distExtra (dsym tb)) := by unfold wtok; rw [if_neg hc1]
      have hlm : lmore tc ≤ 258 := by unfold lmore; split <;> omega
      refine W_skip (sq_n (hK8 _ _ ?_)); refine W_seq fun K11 hK11 => ?_; refine W_region ?_; refine xp (v_fa (q := 2) rfl underlying101 rfl rfl sizeOf3 rfl) rfl ?_; refine xv (ld rfl rfl isAgg3) rfl ?_; refine wc (e_c rfl rfl rfl call46) rfl rfl rfl (lengthSymbol_spec j3 j4) .nil ?_; rintro _ _ ⟨rfl, rfl⟩; (try simp only [ap4]); refine xm rfl rfl ?_; refine xp (v_ex rfl rfl rfl) rfl ?_; refine xp (v_ex rfl rfl rfl) rfl ?_; refine xp (v_ex rfl rfl rfl) rfl ?_; refine xa rfl rfl ?_; refine xa rfl rfl ?_; refine xa rfl rfl ?_; refine WO_nil (sq_n (hK11 _ _ ?_)); refine W_seq fun K12 hK12 => ?_; refine W_draw mixed ?_; refine WA_k (fuel := 1) [0,1,2,3,4,5,6,7,8] rfl (by kernel_rfl) ?_; refine ym rfl rfl rfl ?_; refine ym rfl rfl rfl ?_; refine ym rfl rfl rfl ?_; refine yp rfl (v_ixs rfl underlying23 sizeOf3 rfl rfl (by omega)) rfl ?_
      refine yv rfl (v_ld rfl rfl isAgg3 (ints_at (by omega))) rfl ?_; refine ym rfl rfl rfl ?_; refine ym rfl rfl rfl ?_; refine yp rfl (v_ixs rfl underlying23 sizeOf3 rfl rfl (by omega)) rfl ?_; refine yv rfl (v_ld rfl rfl isAgg3 (hg1 _ (by omega))) rfl ?_; refine WK_nil ?_; refine WA_one (k := 9) rfl (by kernel_rfl) ?_; refine wc (e_c rfl rfl rfl call45) rfl rfl rfl (wcode_spec hwt hG (hcb1 _) (by have := hd1 (lsym tc); omega) (by omega)) (.behind (A := _ :: _ :: _ :: _)) ?_; intro _ G2 hG2; have w2 := wcode_ok (n := C1.getD (lsym tc) 0) (L1.getD (lsym tc) 0) hwt; have a2 := wcode_at (n := C1.getD (lsym tc) 0) (L1.getD (lsym tc) 0) t; have x2 := hd1 (lsym tc); have y2 := w2.le; have z2 := w2.lt; generalize wcode t (C1.getD (lsym tc) 0) (L1.getD (lsym tc) 0) = s2 at *; (try simp only [ap4]); refine WO_nil (sq_n ?_); refine WA_nil (by kernel_rfl) (sq_n (hK12 _ _ ?_))
      refine W_seq fun K13 hK13 => ?_; refine W_region ?_; refine xm rfl rfl ?_; refine xm rfl rfl ?_; refine xm rfl rfl ?_; refine wc (e_c rfl rfl rfl call32) rfl rfl rfl (wbits_spec w2 hG2 (by omega) (by omega) (by omega)) (.behind (A := _ :: _ :: _ :: _)) ?_; intro _ G3 hG3; have w3 := wbits_ok w2 (lmore tc) (lext tc); have a3 := wbits_at s2 (lmore tc) (lext tc); have y3 := w3.le; have z3 := w3.lt; generalize wbits s2 (lmore tc) (lext tc) = s3 at *; (try simp only [ap4]); refine WO_nil (sq_n (hK13 _ _ ?_)); refine W_seq fun K14 hK14 => ?_; refine W_region ?_; refine xp (v_fa (q := 1) rfl underlying101 rfl rfl sizeOf3 rfl) rfl ?_; refine xv (ld rfl rfl isAgg3) rfl ?_; refine wc (e_c rfl rfl rfl call47) rfl rfl rfl (distanceSymbol_spec j1 j2) .nil ?_; rintro _ _ ⟨rfl, rfl⟩; (try simp only [ap4]); refine xm rfl rfl ?_; refine xp (v_ex rfl rfl rfl) rfl ?_
      refine xp (v_ex rfl rfl rfl) rfl ?_; refine xp (v_ex rfl rfl rfl) rfl ?_; refine xa rfl rfl ?_; refine xa rfl rfl ?_; refine xa rfl rfl ?_; refine WO_nil (sq_n (hK14 _ _ ?_)); refine W_seq fun K15 hK15 => ?_; have hat2 := AtH.appl (D := G3) hat2o; refine W_draw mixed ?_; refine WA_k (fuel := 1) [0,1,2,3,4,5,6,7,8] rfl (by kernel_rfl) ?_; refine ym rfl rfl rfl ?_; refine ym rfl rfl rfl ?_; refine ym rfl rfl rfl ?_; refine yp rfl (v_ixs rfl underlying23 sizeOf3 rfl rfl (by omega)) rfl ?_; refine yv rfl (v_ld rfl rfl isAgg3 (ints_at (by omega))) rfl ?_; refine ym rfl rfl rfl ?_; refine ym rfl rfl rfl ?_; refine yp rfl (v_ixs rfl underlying23 sizeOf3 rfl rfl (by omega)) rfl ?_; refine yv rfl (v_ld rfl rfl isAgg3 (hg2 _ (by omega))) rfl ?_; refine WK_nil ?_; refine WA_one (k := 9) rfl (by kernel_rfl) ?_
      refine wc (e_c rfl rfl rfl call45) rfl rfl rfl (wcode_spec w3 hG3 (hcb2 _) (by have := hd2 (dsym tb); omega) (by omega)) (.behind (A := _ :: _ :: _ :: _)) ?_; intro _ G4 hG4; have w4 := wcode_ok (n := C2.getD (dsym tb) 0) (L2.getD (dsym tb) 0) w3; have a4 := wcode_at (n := C2.getD (dsym tb) 0) (L2.getD (dsym tb) 0) s3; have x4 := hd2 (dsym tb); have y4 := w4.le; have z4 := w4.lt; generalize wcode s3 (C2.getD (dsym tb) 0) (L2.getD (dsym tb) 0) = s4 at *; (try simp only [ap4]); refine WO_nil (sq_n ?_); refine WA_nil (by kernel_rfl) (sq_n (hK15 _ _ ?_)); refine W.keep [0,2,3,8,9,19,20,21,22,23,24,11,25,26,27,41,42,43,40,44,45,46,47,48,49,50,51,52,53,54,55,57,58,59,62,63,64,61,65,66,67,12,13,14,68,69,70,71,72,73,74,75,76] rfl ?_; refine W_region ?_; refine xm rfl rfl ?_; refine xm rfl rfl ?_; refine xm rfl rfl ?_
      refine wc (e_c rfl rfl rfl call32) rfl rfl rfl (wbits_spec w4 hG4 (by omega) (by omega) (by omega)) (.behind (A := _ :: _ :: _ :: _)) ?_; intro _ G5 hG5; (try simp only [ap4]); refine WO_nil (bl_n (sq_n (hK6 _ _ ?_))); refine W.drop (.skip .all) ?_; refine W_region ?_; refine xp (n_add rfl rfl rfl kI (by omega)) rfl ?_; refine xm rfl rfl ?_; refine WO_nil (sq_n (?_)); first
      | (have hq := hG5; exact ⟨T.length - (i + 1), by omega, i + 1, _, _, by omega, rfl, v1, by omega, hfo, by rw [htk]; exact hG5, ⟨rfl, rfl, rfl, rfl, rfl, rfl, rfl, rfl, trivial⟩, rfl⟩)
      | exact ⟨T.length - (i + 1), by omega, i + 1, _, _, by omega, rfl, v1, by omega, hfo, by rw [htk]; exact hG2, ⟨rfl, rfl, rfl, rfl, rfl, rfl, rfl, rfl, trivial⟩, rfl⟩
  · replace hc0 := of_decide_eq_false hc0; obtain rfl : i = T.length := by omega
    rw [List.drop_length] at hfo; subst hfo; refine W_exit (sq_x (sq_x (bl_x (sq_n (hK2 _ _ ?_))))); refine W.keep [0,2,8] rfl ?_; have hx256 := getD_le h115 256; refine W_draw mixed ?_; refine WA_k (fuel := 1) [0,1,2,3,4,5,6] rfl (by kernel_rfl) ?_; refine ym rfl rfl rfl ?_; refine ym rfl rfl rfl ?_; refine yp rfl (v_ixs rfl underlying23 sizeOf3 rfl rfl (by omega)) rfl ?_; refine yv rfl (v_ld rfl rfl isAgg3 (ints_at (by omega))) rfl ?_; refine ym rfl rfl rfl ?_; refine yp rfl (v_ixs rfl underlying23 sizeOf3 rfl rfl (by omega)) rfl ?_; refine yv rfl (v_ld rfl rfl isAgg3 (hg1 _ (by omega))) rfl ?_; refine WK_nil ?_; refine WA_one (k := 7) rfl (by kernel_rfl) ?_; refine wc (e_c rfl rfl rfl call45) rfl rfl rfl (wcode_spec hwt hG (hcb1 _) (by omega) (by omega)) (.behind (A := _ :: _ :: _)) ?_; intro _ G6 hG6; (try simp only [ap4]); refine WO_nil (sq_n ?_)
    refine WA_nil (by kernel_rfl) (end_of (v := _) rfl ?_); exact ⟨[_, _], G6, by unfold wbody; rw [hC1, hC2]; exact hG6, rfl⟩
end
end Go.Proofs.YtpbahgddoamhgaaGreatDoor
namespace Go.Proofs.YtpbahgddoamhgaaGreatDoor
open Go Sx Pu
set_option maxRecDepth 10000

namespace Pu
def ustep (u : List Nat × List Nat) (t : T3) : List Nat × List Nat := if t.2.1 = 0 then (u.1.set t.1 1, u.2) else (u.1.set (lsym t.2.2) 1, u.2.set (dsym t.2.1) 1)
def u0 : List Nat × List Nat := ((List.replicate 286 0).set 256 1, List.replicate 30 0)
def usedT (T : List T3) : List Nat × List Nat := T.foldl ustep u0
def uext (T : List T3) (V : List Int) (a : Nat) : List Nat × Nat := if nxt V a 2 = 0 then ((usedT T).1.set (nxt V (a + 1) 286) 1, a + 2) else ((usedT T).1, a + 1)
/-- without the zeros at its end -/
def trim (L : List Nat) (lo : Nat) : Nat → Nat
  | 0 => lo
  | k + 1 => if L.getD (lo + k) 0 = 0 then trim L lo k else lo + k + 1
def trimO (L : List Nat) : Nat → Nat
  | 0 => 4
  | k + 1 => if L.getD (orderL.getD (4 + k) 0) 0 = 0 then trimO L k else 4 + k + 1
theorem trim_bd (L : List Nat) (lo : Nat) : ∀ k, lo ≤ trim L lo k ∧ trim L lo k ≤ lo + k
  | 0 => ⟨Nat.le_refl _, Nat.le_refl _⟩
  | k + 1 => by
    rw [trim]; split
    · have := trim_bd L lo k; omega
    · omega
theorem trimO_bd (L : List Nat) : ∀ k, 4 ≤ trimO L k ∧ trimO L k ≤ 4 + k
  | 0 => ⟨Nat.le_refl _, Nat.le_refl _⟩
  | k + 1 => by
    rw [trimO]; split
    · have := trimO_bd L k; omega
    · omega
def used19 (T : List T3) : List Nat := T.foldl (fun u t => u.set t.1 1) (List.replicate 19 0)
def wlens (L : List Nat) : List Nat → WS → WS
  | [], s => s
  | o :: r, s => wlens L r (wbits s (L.getD o 0) 3)
def wrun (C L : List Nat) (s : WS) (t : T3) : WS := wbits (wcode s (C.getD t.1 0) (L.getD t.1 0)) t.2.1 t.2.2
/-- what a block's own codes are made of -/
structure DynT where
  LL : List Nat
  DD : List Nat
  nl : Nat
  nd : Nat
  rows : List T3
  a : Nat
  lens : List Nat
  nc : Nat
def dynT (T : List T3) (V : List Int) (a : Nat) : DynT :=
  let u := uext T V a
  let l := tree u.1 V u.2 15
  let d := tree (usedT T).2 V l.2 15
  let nl := trim l.1 257 29
  let nd := trim d.1 1 29
  let r := rruns (l.1.take nl ++ d.1.take nd) V (l.1.take nl ++ d.1.take nd).length 0 d.2
  let lens := (tree (used19 r.1) [] 0 7).1
  ⟨l.1, d.1, nl, nd, r.1, r.2, lens, trimO lens 15⟩
def wdynT (x : DynT) (T : List T3) (s : WS) : WS :=
  wbody x.LL x.DD T (x.rows.foldl (wrun (codesL x.lens) x.lens) (wlens x.lens (orderL.take x.nc) (wbits (wbits (wbits s (x.nl - 257) 5) (x.nd - 1) 5) (x.nc - 4) 4)))
def wdyn (T : List T3) (V : List Int) (a : Nat) (s : WS) : WS × Nat := (wdynT (dynT T V a) T s, (dynT T V a).a)

theorem dynT_eq {T : List T3} {V : List Int} {a a2 a3 : Nat} {x : DynT} (hx : dynT T V a = x) (h2 : (tree (uext T V a).1 V (uext T V a).2 15).2 = a2) (h3 : (tree (usedT T).2 V a2 15).2 = a3) :
    (tree (uext T V a).1 V (uext T V a).2 15).1 = x.LL ∧ (tree (usedT T).2 V a2 15).1 = x.DD ∧ x.nl = trim x.LL 257 29 ∧ x.nd = trim x.DD 1 29 ∧
    (rruns (x.LL.take x.nl ++ x.DD.take x.nd) V (x.LL.take x.nl ++ x.DD.take x.nd).length 0 a3).1 = x.rows ∧ (rruns (x.LL.take x.nl ++ x.DD.take x.nd) V (x.LL.take x.nl ++ x.DD.take x.nd).length 0 a3).2 = x.a ∧
    (tree (used19 x.rows) [] 0 7).1 = x.lens ∧ x.nc = trimO x.lens 15 := by
  subst hx h2 h3; unfold dynT; dsimp only; generalize tree (uext T V a).1 V (uext T V a).2 15 = l; generalize tree (usedT T).2 V l.2 15 = d; generalize trim l.1 257 29 = nl; generalize trim d.1 1 29 = nd; generalize rruns (l.1.take nl ++ d.1.take nd) V (l.1.take nl ++ d.1.take nd).length 0 d.2 = r; generalize (tree (used19 r.1) [] 0 7).1 = le; generalize trimO le 15 = nc; exact ⟨rfl, rfl, rfl, rfl, rfl, rfl, rfl, rfl⟩
theorem ustep_len (u : List Nat × List Nat) (t : T3) : (ustep u t).1.length = u.1.length ∧ (ustep u t).2.length = u.2.length := by
  unfold ustep; split <;> simp
theorem usteps_len : ∀ (T : List T3) (u : List Nat × List Nat), (T.foldl ustep u).1.length = u.1.length ∧ (T.foldl ustep u).2.length = u.2.length
  | [], u => ⟨rfl, rfl⟩
  | t :: T, u => by
    have h1 := usteps_len T (ustep u t); have h2 := ustep_len u t; exact ⟨by rw [List.foldl_cons, h1.1, h2.1], by rw [List.foldl_cons, h1.2, h2.2]⟩
theorem usedT_len (T : List T3) : (usedT T).1.length = 286 ∧ (usedT T).2.length = 30 := by
  have := usteps_len T u0; exact ⟨by unfold usedT; rw [this.1]; simp [u0], by unfold usedT; rw [this.2]; simp [u0]⟩
theorem uext_ok (T : List T3) (V : List Int) (a : Nat) : (uext T V a).1.length = 286 ∧ a + 1 ≤ (uext T V a).2 ∧ (uext T V a).2 ≤ a + 2 := by
  have := (usedT_len T).1; unfold uext; split
  · exact ⟨by simp only [List.length_set]; exact this, by simp only; omega, Nat.le_refl _⟩
  · exact ⟨this, by simp only; omega, by simp only; omega⟩
theorem tree_ok {U : List Nat} {V : List Int} {a most : Nat} (hU : U.length ≤ 320) : (tree U V a most).1.length = U.length ∧ (∀ x ∈ (tree U V a most).1, x ≤ 13) ∧ a ≤ (tree U V a most).2 ∧ (tree U V a most).2 ≤ a + 5 := by
  have h5 := nxt_lt V a (most := 5) (by decide); have hst : TSt U.length (List.replicate U.length 0, tsel U U.length, 0, a + 1) := ⟨List.length_replicate, fun s hs => tsel_lt hs, tsel_len U _, fun x hx => by rw [(List.mem_replicate.1 hx).2]; decide, Nat.zero_le _⟩; obtain ⟨h1, h2, h3⟩ := tskew_st (V := V) (most := most) (nxt V a 5) _ hst (by dsimp only; omega); obtain ⟨g1, g2⟩ := tree2_ok h1 hU; unfold tree; dsimp only at h2 h3; exact ⟨g1, g2, by show a ≤ (tskew V most _ _).2.2.2; omega, by show (tskew V most _ _).2.2.2 ≤ _; omega⟩
theorem used19_len : ∀ (T : List T3) (u : List Nat), (T.foldl (fun u t => u.set t.1 1) u).length = u.length
  | [], u => rfl
  | t :: T, u => by rw [List.foldl_cons, used19_len T]; exact List.length_set
/-- what holds of it -/
structure DynOk (x : DynT) (a : Nat) : Prop where
  l1 : x.LL.length = 286
  l2 : x.DD.length = 30
  b1 : ∀ y ∈ x.LL, y ≤ 13
  b2 : ∀ y ∈ x.DD, y ≤ 13
  nl : 257 ≤ x.nl ∧ x.nl ≤ 286
  nd : 1 ≤ x.nd ∧ x.nd ≤ 30
  ro : ∀ t ∈ x.rows, RunOk t
  rl : x.rows.length ≤ 316
  le : a + 1 ≤ x.a ∧ x.a ≤ a + 1000
  l3 : x.lens.length = 19
  b3 : ∀ y ∈ x.lens, y ≤ 13
  nc : 4 ≤ x.nc ∧ x.nc ≤ 19
  rs : rsum x.rows ≤ 4108
theorem dynT_ok (T : List T3) (V : List Int) (a : Nat) : DynOk (dynT T V a) a := by
  obtain ⟨e1, e2, e3⟩ := uext_ok T V a; have e4 := (usedT_len T).2; unfold dynT; dsimp only; generalize uext T V a = u at *; obtain ⟨f1, f2, f3, f4⟩ := tree_ok (U := u.1) (V := V) (a := u.2) (most := 15) (by omega); generalize tree u.1 V u.2 15 = l at *; obtain ⟨g1, g2, g3, g4⟩ := tree_ok (U := (usedT T).2) (V := V) (a := l.2) (most := 15) (by omega); generalize tree (usedT T).2 V l.2 15 = d at *; have h1 := trim_bd l.1 257 29; have h2 := trim_bd d.1 1 29; generalize trim l.1 257 29 = nl at *; generalize trim d.1 1 29 = nd at *; have hl : (l.1.take nl ++ d.1.take nd).length ≤ 316 := by simp only [List.length_append, List.length_take]; omega
  have h15 : ∀ y ∈ l.1.take nl ++ d.1.take nd, y ≤ 15 := fun y hy => by
    rcases List.mem_append.1 hy with h | h
    · have := f2 y (List.mem_of_mem_take h); omega
    · have := g2 y (List.mem_of_mem_take h); omega
  obtain ⟨k1, k2, k3, k4⟩ := rruns_ok h15 V (l.1.take nl ++ d.1.take nd).length 0 d.2 (Nat.zero_le _); have krs := rruns_sum h15 V (l.1.take nl ++ d.1.take nd).length 0 d.2 (Nat.zero_le _); generalize rruns (l.1.take nl ++ d.1.take nd) V (l.1.take nl ++ d.1.take nd).length 0 d.2 = r at *; have hu : (used19 r.1).length = 19 := by unfold used19; rw [used19_len]; exact List.length_replicate
  obtain ⟨m1, m2, _, _⟩ := tree_ok (U := used19 r.1) (V := []) (a := 0) (most := 7) (by omega); have hnc := trimO_bd (tree (used19 r.1) [] 0 7).1 15; exact ⟨by dsimp only; omega, by dsimp only; omega, f2, g2, by dsimp only; omega, by dsimp only; omega, k1, by dsimp only; omega, by dsimp only; omega, by dsimp only; omega, m2, by dsimp only; omega, by dsimp only; omega⟩
theorem wlens_ok {L : List Nat} : ∀ (O : List Nat) {s : WS}, WOk s → WOk (wlens L O s) ∧ (wlens L O s).2 = s.2 + 3 * O.length
  | [], s, h => ⟨h, rfl⟩
  | o :: r, s, h => by
    obtain ⟨a1, a2⟩ := wlens_ok r (wbits_ok h (L.getD o 0) 3); exact ⟨a1, by rw [wlens, a2, wbits_at, List.length_cons]; omega⟩
theorem wruns_ok {C L : List Nat} (hL : ∀ x ∈ L, x ≤ 13) : ∀ (T : List T3) {s : WS}, WOk s → (∀ t ∈ T, RunOk t) → WOk (T.foldl (wrun C L) s) ∧ s.2 ≤ (T.foldl (wrun C L) s).2 ∧ (T.foldl (wrun C L) s).2 ≤ s.2 + 20 * T.length
  | [], s, h, _ => ⟨h, Nat.le_refl _, Nat.le_refl _⟩
  | t :: T, s, h, ht => by
    have h1 := ht t (by simp); have h2 : L.getD t.1 0 ≤ 13 := by
      rcases Nat.lt_or_ge t.1 L.length with h | h
      · rw [List.getD_eq_getElem?_getD, List.getElem?_eq_getElem h]; exact hL _ (List.getElem_mem h)
      · rw [List.getD_eq_getElem?_getD, List.getElem?_eq_none h]; simp
    have h3 := h1.2.2; have hw : WOk (wrun C L s t) := wbits_ok (wcode_ok _ h) _ _; have ha : (wrun C L s t).2 = s.2 + L.getD t.1 0 + t.2.2 := by unfold wrun; rw [wbits_at, wcode_at]
    obtain ⟨b1, b2, b3⟩ := wruns_ok hL T hw fun u hu => ht u (by simp [hu]); exact ⟨b1, by rw [List.foldl_cons]; omega, by rw [List.foldl_cons, List.length_cons]; omega⟩
theorem wruns_sum {C L : List Nat} (hL : ∀ x ∈ L, x ≤ 13) : ∀ (T : List T3) (s : WS), (T.foldl (wrun C L) s).2 ≤ s.2 + rsum T
  | [], s => Nat.le_refl _
  | t :: T, s => by
    have h2 : L.getD t.1 0 ≤ 13 := by
      rcases Nat.lt_or_ge t.1 L.length with h | h
      · rw [List.getD_eq_getElem?_getD, List.getElem?_eq_getElem h]; exact hL _ (List.getElem_mem h)
      · rw [List.getD_eq_getElem?_getD, List.getElem?_eq_none h]; simp
    have ha : (wrun C L s t).2 = s.2 + L.getD t.1 0 + t.2.2 := by unfold wrun; rw [wbits_at, wcode_at]
    have b := wruns_sum (C := C) hL T (wrun C L s t); rw [List.foldl_cons, rsum]; omega
theorem wdyn_ok {T : List T3} {V : List Int} {a : Nat} {s : WS} (h : WOk s) (hT : ∀ t ∈ T, TokOk t) : WOk (wdyn T V a s).1 ∧ s.2 ≤ (wdyn T V a s).1.2 ∧ (wdyn T V a s).1.2 ≤ s.2 + 48 * T.length + 4194 ∧ a + 1 ≤ (wdyn T V a s).2 ∧ (wdyn T V a s).2 ≤ a + 1000 := by
  have hx := dynT_ok T V a; show WOk (wdynT (dynT T V a) T s) ∧ s.2 ≤ (wdynT (dynT T V a) T s).2 ∧ (wdynT (dynT T V a) T s).2 ≤ _ ∧ a + 1 ≤ (dynT T V a).a ∧ (dynT T V a).a ≤ _; generalize dynT T V a = x at *; have w1 := wbits_ok (wbits_ok (wbits_ok h (x.nl - 257) 5) (x.nd - 1) 5) (x.nc - 4) 4; have a1 : (wbits (wbits (wbits s (x.nl - 257) 5) (x.nd - 1) 5) (x.nc - 4) 4).2 = s.2 + 14 := by rw [wbits_at, wbits_at, wbits_at]
  obtain ⟨w2, a2⟩ := wlens_ok (L := x.lens) (orderL.take x.nc) w1; have hol : (orderL.take x.nc).length ≤ 19 := by rw [List.length_take]; have := hx.nc; omega
  obtain ⟨w3, a3, a4⟩ := wruns_ok (C := codesL x.lens) hx.b3 x.rows w2 hx.ro; obtain ⟨w4, a5, a6⟩ := wbody_ok (L1 := x.LL) (L2 := x.DD) w3 hT (fun y hy => by have := hx.b1 y hy; omega) (fun y hy => by have := hx.b2 y hy; omega); have a7 := wruns_sum (C := codesL x.lens) hx.b3 x.rows (wlens x.lens (orderL.take x.nc) (wbits (wbits (wbits s (x.nl - 257) 5) (x.nd - 1) 5) (x.nc - 4) 4)); have := hx.rs; unfold wdynT; exact ⟨w4, by omega, by omega, hx.le.1, hx.le.2⟩
end Pu
end Go.Proofs.YtpbahgddoamhgaaGreatDoor
