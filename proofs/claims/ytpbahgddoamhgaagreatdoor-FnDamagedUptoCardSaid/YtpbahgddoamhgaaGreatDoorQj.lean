/- Part 10 of 11 of the proof: the executor, the walks and the plain laws, in build order. -/
import Derived.Test.YtpbahgddoamhgaaGreatDoorQi
namespace Go.Proofs.YtpbahgddoamhgaaGreatDoor
open Go.Proofs.Tryz
open Go Sx Pu
set_option maxRecDepth 10000

section
variable {n : Nat} {E : El} {H : Hl} {o : Oper} {x y : Operand} {t' : TypeId}
theorem v_neqs {a : Addr} (ho : o.op = .binOp .neq 47 x y t') (hx : ev E x = some (errV a)) (hy : ev E y = some (errV a)) : OP Tryz.prog n E o (.bool false) := fun s w ha => by
  obtain ⟨i, h1, h2⟩ := info184; obtain ⟨j, h3, h4⟩ := info212; have := run_equalIn_iface_ptr_same w 9998 a i47 i184 h1 h2 h3; simp [execOp, ho, ev_sound ha hx, ev_sound ha hy, eqGuard, binOp, Op.equal, Op.maxDepth, this]
theorem v_neqo {a b : Addr} {ca cb : List Value} {ta tb : TypeId} {ra rb : Obj → Hl} (ho : o.op = .binOp .neq 47 x y t') (hx : ev E x = some (errV a)) (hy : ev E y = some (errV b)) (hne : a ≠ b) (ha : AtH H a.block (.cells ca.toArray ta (0, 0)) ra) (hb : AtH H b.block (.cells cb.toArray tb (0, 0)) rb) : OV Tryz.prog n E H o (.bool true) := fun O F s w hag hp => by
  obtain ⟨i, h1, h2⟩ := info184; obtain ⟨j, h3, h4⟩ := info212; have := run_equalIn_iface_ptr_other w 9998 i47 i184 h1 h2 h3 h4 hne (ha.has hp) (hb.has hp); simp [execOp, ho, ev_sound hag hx, ev_sound hag hy, eqGuard, binOp, Op.equal, Op.maxDepth, this]
theorem v_neqt {t u : TypeId} {v z : Value} (ho : o.op = .binOp .neq 47 x y t') (hx : ev E x = some (.iface t v)) (hy : ev E y = some (.iface u z)) (hne : t ≠ u) : OP Tryz.prog n E o (.bool true) := fun s w ha => by
  have h : ∀ d : Nat, (Op.equalIn (d + 1) 47 (.iface t v) (.iface u z)).run Tryz.prog w = .ok false w := fun d => by simp [Op.equalIn, run_underlying i47, hne]
  simp [execOp, ho, ev_sound ha hx, ev_sound ha hy, eqGuard, binOp, Op.equal, Op.maxDepth, h 9999]
theorem v_neqn {u : TypeId} {z : Value} (ho : o.op = .binOp .neq 47 x y t') (hx : ev E x = some .nilIface) (hy : ev E y = some (.iface u z)) : OP Tryz.prog n E o (.bool true) := fun s w ha => by
  have h : ∀ d : Nat, (Op.equalIn (d + 1) 47 .nilIface (.iface u z)).run Tryz.prog w = .ok false w := fun d => by simp [Op.equalIn, run_underlying i47]
  simp [execOp, ho, ev_sound ha hx, ev_sound ha hy, eqGuard, binOp, Op.equal, Op.maxDepth, h 9999]
theorem m_Read150 (v : Value) (w : World) : (method (Tryz.prog.types.size + Made.depth) 150 v "Read").run Tryz.prog w = .ok (119, v) w := by kernel_rfl
theorem m_Close150 (v : Value) (w : World) : (method (Tryz.prog.types.size + Made.depth) 150 v "Close").run Tryz.prog w = .ok (118, v) w := by kernel_rfl
theorem m_Write152 (v : Value) (w : World) : (method (Tryz.prog.types.size + Made.depth) 152 v "Write").run Tryz.prog w = .ok (125, v) w := by kernel_rfl
theorem m_Sum152 (v : Value) (w : World) : (method (Tryz.prog.types.size + Made.depth) 152 v "Sum32").run Tryz.prog w = .ok (124, v) w := by kernel_rfl
theorem m_Read80 (v : Value) (w : World) : (method (Tryz.prog.types.size + Made.depth) 80 v "Read").run Tryz.prog w = .ok (109, v) w := by kernel_rfl
theorem m_Close80 (v : Value) (w : World) : (method (Tryz.prog.types.size + Made.depth) 80 v "Close").run Tryz.prog w = .ok (108, v) w := by kernel_rfl
end
theorem put_zero_get {c ys : List Value} {i : Nat} (h : i < ys.length) : (put c 0 ys)[0 + i]? = ys[i]? := by
  unfold put; rw [Nat.zero_add, Nat.zero_add, List.take_zero, List.nil_append, List.getElem?_append_left h]
theorem datPut {f : Nat → Value} {c : List Value} {T : List Nat} {pb : Nat} {ty : TypeId} {D : Hl} : DatV f (some ⟨pb, 0, none⟩) T ((pb, .cells (List.toArray (put c 0 (T.map f))) ty (0, 0)) :: D) := fun _ =>
  ⟨pb, 0, _, ty, (0, 0), _, rfl, AtH.here, fun i hi => by rw [put_zero_get (by rw [List.length_map]; exact hi), List.getElem?_map, List.getElem?_eq_getElem hi]; rfl⟩
theorem four_bytes {S : List Nat} {i : Nat} {t : List Value} (t0 t1 t2 t3 : Nat) (ht : t = [bV t0, bV t1, bV t2, bV t3]) : ∃ u0 u1 u2 u3, ((S.drop i).take 4).map bV ++ List.drop (((S.drop i).take 4).map bV).length t = [bV u0, bV u1, bV u2, bV u3] := by
  subst ht; match S.drop i with
  | [] => exact ⟨_, _, _, _, rfl⟩
  | [a] => exact ⟨_, _, _, _, rfl⟩
  | [a, b] => exact ⟨_, _, _, _, rfl⟩
  | [a, b, c] => exact ⟨_, _, _, _, rfl⟩
  | a :: b :: c :: d :: l => exact ⟨_, _, _, _, rfl⟩
def used (R : List Nat × RS) : Nat := (ralign R.2).at_ / 8
def ZOk (x : Cx) (R : List Nat × RS) (L : List Nat) : Prop := R.2.fail = false ∧ R.1 = L ∧ used R + 4 ≤ x.B.length ∧ num4 x.B (used R) = adler L
def ZErr (x : Cx) (e : Value) : Prop := ErrK x.uex e ∨ e = errV x.chk
def ZEnd (x : Cx) (R : List Nat × RS) (L : List Nat) (e : Value) (s : FSt) : Prop := s.i ≤ x.S.length ∧
  ((e = errV x.eof ∧ s.err = errV x.eof ∧ ZOk x R L ∧ s.i = x.o + used R + 4) ∨ (ZErr x e ∧ ∀ L, ¬ ZOk x R L))
section
variable {x : Cx} {R : List Nat × RS} {O Dl T : List Nat} {y pb zb gb n dcap t0 t1 t2 t3 : Nat} {c : List Value} {ty : TypeId}
set_option maxHeartbeats 4000000 in
theorem zRead_spec {s : FSt} (hx : x.Ok) (hg : Good x O Dl T s) (hr : RSt x R O y s) (hn : 0 < n) (hdc : n ≤ dcap) (hd62 : dcap < 2 ^ 62) (hq : n ≤ c.length) :
    CallsL Tryz.prog 109 #[.pointer (some ⟨zb, 0, none⟩), .slice (some ⟨pb, 0, none⟩) n dcap] ((pb, .cells (List.toArray c) ty (0, 0)) :: (zb, .cells (List.toArray [.iface 42 (.pointer (some ⟨x.k, 0, none⟩)), .iface 150 (.pointer (some ⟨x.fb, 0, none⟩)), .iface 152 (.pointer (some ⟨gb, 0, none⟩)), .nilIface, bV t0, bV t1, bV t2, bV t3]) 87 (0, 0)) :: (gb, digO (pk (adl Dl (1, 0)))) :: s.H x) fun v H' =>
      ∃ s' T1 e t0 t1 t2 t3, v = .tuple #[iV T1.length, e] ∧ T1.length ≤ n ∧ (∀ c ∈ T1, c < 256) ∧ H' = (pb, .cells (List.toArray (put c 0 (T1.map bV))) ty (0, 0)) :: (zb, .cells (List.toArray [.iface 42 (.pointer (some ⟨x.k, 0, none⟩)), .iface 150 (.pointer (some ⟨x.fb, 0, none⟩)), .iface 152 (.pointer (some ⟨gb, 0, none⟩)), e, bV t0, bV t1, bV t2, bV t3]) 87 (0, 0)) :: (gb, digO (pk (adl (Dl ++ T1) (1, 0)))) :: s'.H x ∧
        ((e = .nilIface ∧ 0 < T1.length ∧ ∃ O' T' y', Good x O' (Dl ++ T1) T' s' ∧ RSt x R O' y' s') ∨ ZEnd x R (Dl ++ T1) e s') := by
  have hlen := hx.src.len; have hSl := hx.src.hl; have hlt := adl_lt Dl (1, 0) (by decide) (by decide)
  have hb256 : ∀ i, x.S.getD i 0 < 256 := fun i => by
    rcases Nat.lt_or_ge i x.S.length with h1 | h1
    · rw [List.getD_eq_getElem?_getD, List.getElem?_eq_getElem h1]; exact hx.src.hS _ (List.getElem_mem h1)
    · rw [List.getD_eq_getElem?_getD, List.getElem?_eq_none h1]; decide
  have hne0 : ∀ a ∈ [x.shb, x.uex, x.hdr, x.dic, x.chk], a ≠ x.eof := fun a ha e => by
    have := hx.gd.ne; rw [List.nodup_cons] at this; exact this.1 (e ▸ ha)
  have hneu := hne0 x.uex (by simp); refine CallsL_of func109 rfl ntmps109 rfl ?_; try dsimp only [initE, Nat.zero_add]
  refine W_seq fun K1 hK1 => ?_; refine W_region ?_; refine xa rfl rfl ?_; refine xa rfl rfl ?_; refine WO_nil (sq_n (hK1 _ _ ?_)); refine W_seq fun K2 hK2 => ?_; refine W_seq fun K3 hK3 => ?_; refine W_region ?_; refine xm rfl rfl ?_; refine xn rfl rfl ?_; refine xp (v_fa (q := 3) rfl underlying87 rfl rfl sizeOf47 rfl) rfl ?_; refine xv (ld rfl rfl isAgg47) rfl ?_; refine xp (v_nen rfl rfl) rfl ?_
  refine WO_nil (sq_n (hK3 _ _ ?_)); refine W.keep [0,1,4,5,14] rfl ?_; refine W_cond_f rfl ?_; refine W_skip (sq_n (hK2 _ _ ?_)); refine W_seq fun K4 hK4 => ?_; refine W_region ?_; refine xa rfl rfl ?_; refine WO_nil (sq_n (hK4 _ _ ?_)); refine W_seq fun K5 hK5 => ?_; refine W_region ?_; refine xm rfl rfl ?_; refine xm rfl rfl ?_; refine xn rfl rfl ?_
  refine xp (v_fa (q := 1) rfl underlying87 rfl rfl sizeOf45 rfl) rfl ?_; refine xv (ld rfl rfl isAgg45) rfl ?_; refine xm rfl rfl ?_; refine wc (e_i rfl rfl rfl (m_Read150 _) call119) rfl rfl rfl (flateRead_spec (q := 0) hx hg hr hn hdc hd62 (by omega)) (.cons .here (.skip (.skip .all))) ?_
  rintro _ _ ⟨⟨yro, yb, ynb, yh1, yh2, ywr, yrd, yfull, yb0, yb1, yb2, yb3, ystep, ysst, yfin, yerr, ytr, yhl, yhd, ycl, ycd, yi, ypr, yY, yX, yC, yG⟩, T1, rfl, O2, T2, e, y2, rfl, hT1, hg2, hi2, hcase⟩; dsimp only at hi2
  have hone : one e = true := by
    rcases hcase with ⟨rfl, _⟩ | ⟨rfl, _⟩ | ⟨h, _⟩
    · rfl
    · rfl
    · exact h.one
  have hbt : ∀ c ∈ T1, c < 256 := fun c hc => by
    obtain ⟨pd, h1, _⟩ := hg2.out; exact hg2.ol.2 c (by rw [h1]; simp [hc])
  obtain ⟨_, _, _, hg0⟩ := (hx.gd.app yG).g0; obtain ⟨_, _, _, hg3⟩ := (hx.gd.app yG).g3; obtain ⟨_, _, _, hg4⟩ := (hx.gd.app yG).g4; obtain ⟨_, _, _, hbe⟩ := (hx.gd.app yG).bl x.eof (by simp); obtain ⟨_, _, _, hbu⟩ := (hx.gd.app yG).bl x.uex (by simp)
  have hGD7 : ∀ a b c d e f, GD (a :: b :: c :: d :: e :: f :: (x.cbk, intsO yC 149) :: (yG ++ x.D)) x.eof x.shb x.uex x.hdr x.dic x.chk := fun a b c d e f => (((((((hx.gd.app yG).cons _).cons _).cons _).cons _).cons _).cons _).cons _
  have hDT7 : ∀ a b c d e f, Dat x.p x.S (a :: b :: c :: d :: e :: f :: (x.cbk, intsO yC 149) :: (yG ++ x.D)) := fun a b c d e f => (((((((hx.src.hd.app yG).cons _).cons _).cons _).cons _).cons _).cons _).cons _; dsimp only [FSt.H, FSt.c, FSt.tail]; (try simp only [ap4]); refine xm rfl rfl ?_; refine xp (v_ex rfl rfl rfl) rfl ?_; refine xp (v_ex rfl rfl rfl) rfl ?_; refine xa rfl rfl ?_; refine xn rfl rfl ?_
  refine xp (v_fa (q := 3) rfl underlying87 rfl rfl sizeOf47 rfl) rfl ?_; refine wst rfl rfl rfl sizeOf47 hone rfl rfl ?_; refine WO_nil (sq_n (hK5 _ _ ?_)); refine W.keep [0,1,4,5,6] rfl ?_; refine W_seq fun K6 hK6 => ?_; refine W_draw mixed ?_; refine WA_k (fuel := 1) [0,1,2,3,4,5,6,7,8] rfl (by kernel_rfl) ?_; refine ym rfl rfl rfl ?_; refine yp rfl (v_nil rfl rfl) rfl ?_
  refine yp rfl (v_fa (q := 2) rfl underlying87 rfl rfl sizeOf84 rfl) rfl ?_; refine yv rfl (ld rfl rfl isAgg84) rfl ?_; refine ym rfl rfl rfl ?_; refine ym rfl rfl rfl ?_; refine yp rfl (v_slp rfl underlying22 sizeOf5 rfl .none (.some rfl) (.some rfl) (by omega) (by omega) (by omega) (by decide)) rfl ?_; refine yp rfl (v_nili rfl rfl) rfl ?_; refine ym rfl rfl rfl ?_; refine WK_nil ?_
  refine WA_one (k := 9) rfl (by kernel_rfl) ?_; rw [pmv_zero]; refine wc (e_i rfl rfl rfl (m_Write152 _) call125) rfl rfl rfl ((adWrite_spec (L := T1) (x := adl Dl (1, 0)) (cap := dcap) (by omega) (datPut.cons _) hbt (by omega) hlt.1 hlt.2)) (.cons (.there .here) .all) ?_; rintro _ _ rfl; rw [← adl_app]; (try simp only [ap4]); refine WO_nil (sq_n ?_); refine WA_nil (by kernel_rfl) (sq_n (hK6 _ _ ?_))
  refine W.keep [0,4,5,6] rfl ?_; refine W_seq fun K7 hK7 => ?_; refine W_seq fun K8 hK8 => ?_; refine W.drop (H' := (pb, _) :: (zb, _) :: (gb, _) :: (x.fb, _) :: (x.k, _) :: _) (.cons (.there (.there .here)) (.cons (.there .here) .all)) ?_; rcases hcase with ⟨rfl, hT0, hr2⟩ | ⟨rfl, hse, hRf, hR1, hsi, hsl⟩ | ⟨hek, hRf⟩
  · skip
    refine W_draw mixed ?_; refine WA_k (fuel := 0) [0,1,2,3,4,5] rfl (by kernel_rfl) ?_; refine ym rfl rfl rfl ?_; refine yp rfl (v_nil rfl rfl) rfl ?_; refine yp rfl (v_fa (q := 3) rfl underlying87 rfl rfl sizeOf47 rfl) rfl ?_; refine yv rfl (ld rfl rfl isAgg47) rfl ?_; refine yv rfl (ld rfl rfl isAgg47) rfl ?_; refine yp rfl (v_neqn rfl rfl rfl) rfl ?_; refine WK_nil ?_
    refine WA_nil (by kernel_rfl) (sq_n (hK8 _ _ ?_)); refine W.keep [0,4,5,6,46] rfl ?_; refine W_cond_t rfl ?_; refine W_seq fun K9 hK9 => ?_; refine W_draw mixed ?_; refine WA_k (fuel := 0) [0,1,2,3,4,5,6] rfl (by kernel_rfl) ?_; refine ym rfl rfl rfl ?_; refine ym rfl rfl rfl ?_; refine yp rfl (v_nil rfl rfl) rfl ?_; refine yp rfl (v_fa (q := 3) rfl underlying87 rfl rfl sizeOf47 rfl) rfl ?_
    refine yv rfl (ld rfl rfl isAgg47) rfl ?_; refine yp rfl (v_as rfl rfl) rfl ?_; refine yp rfl (v_as rfl rfl) rfl ?_; refine WK_nil ?_; refine WA_nil (by kernel_rfl) (sq_n (hK9 _ _ ?_)); refine W.keep [0,6,4,5] rfl ?_; refine W_ret (sq_r (ret_of (v := _) rfl ?_))
    exact ⟨(FSt.mk yro yb ynb yh1 yh2 ywr yrd yfull yb0 yb1 yb2 yb3 ystep ysst yfin yerr ytr yhl yhd ycl ycd (yi) ypr yY yX yC yG), T1, .nilIface, t0, t1, t2, t3, rfl, hT1, hbt, rfl, .inl ⟨rfl, hT0, O2, T2, y2, hg2, hr2⟩⟩
  · dsimp only at hse hsi; subst hse; have hub : used R = (ralign R.2).at_ / 8 := rfl; refine W_draw mixed ?_; refine WA_k (fuel := 0) [0,1,2,3,4,5] rfl (by kernel_rfl) ?_; refine ym rfl rfl rfl ?_; refine yp rfl (v_nil rfl rfl) rfl ?_; refine yp rfl (v_fa (q := 3) rfl underlying87 rfl rfl sizeOf47 rfl) rfl ?_; refine yv rfl (ld rfl rfl isAgg47) rfl ?_; refine yv rfl (ld rfl rfl isAgg47) rfl ?_
    refine yp rfl (v_neqs (a := x.eof) rfl rfl rfl) rfl ?_; refine WK_nil ?_; refine WA_nil (by kernel_rfl) (sq_n (hK8 _ _ ?_)); refine W.keep [0,4,5,6,46] rfl ?_; refine W_cond_f rfl ?_; refine W_skip (sq_n (hK7 _ _ ?_)); refine W_seq fun K10 hK10 => ?_; refine W_seq fun K11 hK11 => ?_; refine W_draw mixed ?_; refine WA_k (fuel := 6) [0,1,2,3,4,5,6,7] rfl (by kernel_rfl) ?_; refine ym rfl rfl rfl ?_
    refine yp rfl (v_nil rfl rfl) rfl ?_; refine yp rfl (v_fa (q := 0) rfl underlying87 rfl rfl sizeOf82 rfl) rfl ?_; refine yv rfl (ld rfl rfl isAgg82) rfl ?_; refine ym rfl rfl rfl ?_; refine yp rfl (v_nil rfl rfl) rfl ?_; refine yp rfl (v_fa (q := 4) rfl underlying87 rfl rfl sizeOf85 rfl) rfl ?_
    refine yp rfl (v_sla rfl underlying85 sizeOf5 rfl .none (.some rfl) (.some rfl) (by omega) (by omega) (by omega) (by decide)) rfl ?_; refine WK_nil ?_; refine WA_one (k := 8) rfl (by kernel_rfl) ?_; rw [pmv_zero]
    refine wc (e_c rfl rfl rfl call51) rfl rfl rfl (readFull_spec (k := x.k) (cap := x.cap) (i := yi) (pr := ypr) (n := 4) (dcap := 4) (q := 4) (db := zb) (hGD7 _ _ _ _ _ _) (hDT7 _ _ _ _ _ _) (by omega) hi2 hx.cap (AtH.there (h := AtH.here)) (by decide) (by decide) (by decide) (Nat.le_of_ble_eq_true rfl) (hGD7 _ _ _ _ _ _)) (.cons (.there (.there (.there (.there .here)))) .all) ?_
    rintro _ _ ⟨pr3, ⟨hle, rfl, rfl⟩ | ⟨hlt2, rfl, rfl⟩⟩; all_goals (try simp only [ap4])
    · rw [put4, take4 (by omega)]; refine WO_nil (sq_n ?_); refine WA_k (fuel := 0) [9,10,11,12,13] rfl (by kernel_rfl) ?_; refine ym rfl rfl rfl ?_; refine yp rfl (v_ex rfl rfl rfl) rfl ?_; refine yp rfl (v_ex rfl rfl rfl) rfl ?_; refine yp rfl (v_as rfl rfl) rfl ?_; refine yp rfl (v_as rfl rfl) rfl ?_; refine WK_nil ?_; refine WA_nil (by kernel_rfl) (sq_n (hK11 _ _ ?_)); refine W.keep [0,4,5,6,8] rfl ?_
      refine W_seq fun K12 hK12 => ?_; refine W.drop (H' := (pb, _) :: (zb, _) :: (gb, _) :: (x.fb, _) :: (x.k, _) :: _) (.cons (.there .here) (.cons (.there .here) (.cons (.there .here) (.cons (.there .here) .all)))) ?_; refine W_region ?_; refine xm rfl rfl ?_; refine xp (v_nen rfl rfl) rfl ?_; refine WO_nil (sq_n (hK12 _ _ ?_)); refine W_cond_f rfl ?_; refine W_skip (sq_n (hK10 _ _ ?_))
      refine W.keep [0,4,5,6] rfl ?_; refine W_seq fun K13 hK13 => ?_; refine W_draw mixed ?_; refine WA_k (fuel := 2) [0,1,2,3,4] rfl (by kernel_rfl) ?_; refine yp rfl (v_ld117 rfl rfl) rfl ?_; refine ym rfl rfl rfl ?_; refine yp rfl (v_nil rfl rfl) rfl ?_; refine yp rfl (v_fa (q := 4) rfl underlying87 rfl rfl sizeOf85 rfl) rfl ?_
      refine yp rfl (v_sla rfl underlying85 sizeOf5 rfl .none (.some rfl) .none (by omega) (by omega) (by omega) (by decide)) rfl ?_; refine WK_nil ?_; refine WA_one (k := 5) rfl (by kernel_rfl) ?_; rw [pmv_zero]
      refine wc (e_c rfl rfl rfl call53) rfl rfl rfl (u32_spec (b := zb) (off := 4) (cap := 4) (x0 := x.S.getD yi 0) (x1 := x.S.getD (yi + 1) 0) (x2 := x.S.getD (yi + 2) 0) (x3 := x.S.getD (yi + 3) 0) (AtH.there (h := AtH.here)) rfl rfl rfl rfl (hb256 _) (hb256 _) (hb256 _) (hb256 _)) .all ?_; rintro _ _ ⟨rfl, rfl⟩; (try simp only [ap4]); refine WO_nil (sq_n ?_); refine WA_k (fuel := 0) [6] rfl (by kernel_rfl) ?_
      refine yp rfl (v_as rfl rfl) rfl ?_; refine WK_nil ?_; refine WA_nil (by kernel_rfl) (sq_n (hK13 _ _ ?_)); refine W.keep [0,4,5,6,9] rfl ?_; refine W_seq fun K14 hK14 => ?_; refine W_seq fun K15 hK15 => ?_; refine W_region ?_; refine xm rfl rfl ?_; refine xm rfl rfl ?_; refine xn rfl rfl ?_; refine xp (v_fa (q := 2) rfl underlying87 rfl rfl sizeOf84 rfl) rfl ?_; refine xv (ld rfl rfl isAgg84) rfl ?_
      refine wc (e_i rfl rfl rfl (m_Sum152 _) call124) rfl rfl rfl (adSum_spec) (.cons (.there (.there .here)) .all) ?_; rintro _ _ ⟨rfl, rfl⟩; (try simp only [ap4]); refine xp (n_ne rfl rfl rfl) rfl ?_; refine WO_nil (sq_n (hK15 _ _ ?_)); refine W.keep [0,4,5,6,91] rfl ?_; refine W_cond rfl (fun hc4 => ?_) (fun hc4 => ?_)
      · replace hc4 := of_decide_eq_true hc4; refine W_seq fun K16 hK16 => ?_; refine W.drop (H' := (pb, _) :: (zb, _) :: (gb, _) :: _) (.cons (.there .here) (.cons (.there .here) .all)) ?_
        have hn4 : num4 x.B (used R) = x.S.getD yi 0 * 16777216 + x.S.getD (yi + 1) 0 * 65536 + x.S.getD (yi + 2) 0 * 256 + x.S.getD (yi + 3) 0 := by
          unfold num4; rw [hsi, ← hub, ← hx.src.get, ← hx.src.get, ← hx.src.get, ← hx.src.get, Nat.add_assoc x.o, Nat.add_assoc x.o, Nat.add_assoc x.o]
        refine W_region ?_; refine xm rfl rfl ?_; refine xv (ld rfl rfl isAgg47) rfl ?_; refine xn rfl rfl ?_; refine xp (v_fa (q := 3) rfl underlying87 rfl rfl sizeOf47 rfl) rfl ?_; refine wst rfl rfl rfl sizeOf47 rfl rfl rfl ?_; refine WO_nil (sq_n (hK16 _ _ ?_)); refine W.keep [0,4,5,6] rfl ?_; refine W_seq fun K17 hK17 => ?_; refine W_draw mixed ?_; refine WA_k (fuel := 0) [0,1,2,3,4,5,6] rfl (by kernel_rfl) ?_
        refine ym rfl rfl rfl ?_; refine ym rfl rfl rfl ?_; refine yp rfl (v_nil rfl rfl) rfl ?_; refine yp rfl (v_fa (q := 3) rfl underlying87 rfl rfl sizeOf47 rfl) rfl ?_; refine yv rfl (ld rfl rfl isAgg47) rfl ?_; refine yp rfl (v_as rfl rfl) rfl ?_; refine yp rfl (v_as rfl rfl) rfl ?_; refine WK_nil ?_; refine WA_nil (by kernel_rfl) (sq_n (hK17 _ _ ?_)); refine W.keep [6,4,5] rfl ?_
        refine W_ret (sq_r (ret_of (v := _) rfl ?_)); refine ⟨(FSt.mk yro yb ynb yh1 yh2 ywr yrd yfull yb0 yb1 yb2 yb3 ystep ysst yfin (_) ytr yhl yhd ycl ycd (yi + 4) (pr3) yY yX yC yG), T1, _, _, _, _, _, rfl, hT1, hbt, rfl, .inr ⟨by simp only; omega, .inr ⟨.inr rfl, fun L h => ?_⟩⟩⟩; obtain ⟨_, h1, _, h2⟩ := h; rw [hn4, ← h1, hR1] at h2; exact hc4 h2
      · replace hc4 := of_decide_eq_false hc4; refine W_skip (sq_n (hK14 _ _ ?_)); refine W_seq fun K18 hK18 => ?_; refine W.drop (H' := (pb, _) :: (zb, _) :: (gb, _) :: _) (.cons (.there .here) (.cons (.there .here) .all)) ?_
        have hn4 : num4 x.B (used R) = x.S.getD yi 0 * 16777216 + x.S.getD (yi + 1) 0 * 65536 + x.S.getD (yi + 2) 0 * 256 + x.S.getD (yi + 3) 0 := by
          unfold num4; rw [hsi, ← hub, ← hx.src.get, ← hx.src.get, ← hx.src.get, ← hx.src.get, Nat.add_assoc x.o, Nat.add_assoc x.o, Nat.add_assoc x.o]
        refine W_draw mixed ?_; refine WA_k (fuel := 0) [0,1,2,3] rfl (by kernel_rfl) ?_; refine ym rfl rfl rfl ?_; refine yv rfl (ld rfl rfl isAgg47) rfl ?_; refine yp rfl (v_as rfl rfl) rfl ?_; refine yp rfl (v_as rfl rfl) rfl ?_; refine WK_nil ?_; refine WA_nil (by kernel_rfl) (sq_n (hK18 _ _ ?_)); refine W.keep [4,5] rfl ?_; refine W_ret (ret_of (v := _) rfl ?_)
        refine ⟨(FSt.mk yro yb ynb yh1 yh2 ywr yrd yfull yb0 yb1 yb2 yb3 ystep ysst yfin (_) ytr yhl yhd ycl ycd (yi + 4) (pr3) yY yX yC yG), T1, _, _, _, _, _, rfl, hT1, hbt, rfl, .inr ⟨by simp only; omega, .inl ⟨rfl, rfl, ⟨hRf, hR1, by omega, ?_⟩, by simp only; omega⟩⟩⟩; rw [hn4]; exact Classical.not_not.1 hc4
    · rw [put4]; obtain ⟨u0, u1, u2, u3, htl⟩ := four_bytes (S := x.S) (i := yi) (t := [bV t0, bV t1, bV t2, bV t3]) t0 t1 t2 t3 rfl; rw [htl]; refine WO_nil (sq_n ?_); refine WA_k (fuel := 0) [9,10,11,12,13] rfl (by kernel_rfl) ?_; refine ym rfl rfl rfl ?_; refine yp rfl (v_ex rfl rfl rfl) rfl ?_; refine yp rfl (v_ex rfl rfl rfl) rfl ?_; refine yp rfl (v_as rfl rfl) rfl ?_; refine yp rfl (v_as rfl rfl) rfl ?_
      refine WK_nil ?_; refine WA_nil (by kernel_rfl) (sq_n (hK11 _ _ ?_)); refine W.keep [0,4,5,6,8] rfl ?_; refine W_seq fun K19 hK19 => ?_; refine W.drop (H' := (pb, _) :: (zb, _) :: (gb, _) :: (x.fb, _) :: (x.k, _) :: _) (.cons (.there .here) (.cons (.there .here) (.cons (.there .here) (.cons (.there .here) .all)))) ?_; by_cases h0 : x.S.length = yi
      · rw [if_pos h0]; refine W_region ?_; refine xm rfl rfl ?_; refine xp (v_nei rfl rfl rfl) rfl ?_; refine WO_nil (sq_n (hK19 _ _ ?_)); refine W_cond_t rfl ?_; refine W_seq fun K20 hK20 => ?_; refine W_seq fun K21 hK21 => ?_; refine W_region ?_; refine xm rfl rfl ?_; refine xv (ld rfl rfl isAgg47) rfl ?_; refine xp (v_eqs (a := x.eof) rfl rfl rfl) rfl ?_; refine WO_nil (sq_n (hK21 _ _ ?_))
        refine W.keep [0,4,5,6,8,68] rfl ?_; refine W_cond_t rfl ?_; refine W_region ?_; refine xv (ld rfl rfl isAgg47) rfl ?_; refine xa rfl rfl ?_; refine WO_nil (sq_n (hK20 _ _ ?_)); refine W_seq fun K22 hK22 => ?_; refine W_region ?_; refine xm rfl rfl ?_; refine xm rfl rfl ?_; refine xn rfl rfl ?_; refine xp (v_fa (q := 3) rfl underlying87 rfl rfl sizeOf47 rfl) rfl ?_
        refine wst rfl rfl rfl sizeOf47 rfl rfl rfl ?_; refine WO_nil (sq_n (hK22 _ _ ?_)); refine W.keep [0,4,5,6] rfl ?_; refine W_seq fun K23 hK23 => ?_; refine W_draw mixed ?_; refine WA_k (fuel := 0) [0,1,2,3,4,5,6] rfl (by kernel_rfl) ?_; refine ym rfl rfl rfl ?_; refine ym rfl rfl rfl ?_; refine yp rfl (v_nil rfl rfl) rfl ?_; refine yp rfl (v_fa (q := 3) rfl underlying87 rfl rfl sizeOf47 rfl) rfl ?_
        refine yv rfl (ld rfl rfl isAgg47) rfl ?_; refine yp rfl (v_as rfl rfl) rfl ?_; refine yp rfl (v_as rfl rfl) rfl ?_; refine WK_nil ?_; refine WA_nil (by kernel_rfl) (sq_n (hK23 _ _ ?_)); refine W.keep [0,6,4,5] rfl ?_; refine W_ret (sq_r (ret_of (v := _) rfl ?_))
        exact ⟨(FSt.mk yro yb ynb yh1 yh2 ywr yrd yfull yb0 yb1 yb2 yb3 ystep ysst yfin (_) ytr yhl yhd ycl ycd (x.S.length) (pr3) yY yX yC yG), T1, _, u0, u1, u2, u3, rfl, hT1, hbt, rfl, .inr ⟨Nat.le_refl _, .inr ⟨.inl (.inl rfl), fun L h => by have := h.2.2.1; omega⟩⟩⟩
      · rw [if_neg h0]; refine W_region ?_; refine xm rfl rfl ?_; refine xp (v_nei rfl rfl rfl) rfl ?_; refine WO_nil (sq_n (hK19 _ _ ?_)); refine W_cond_t rfl ?_; refine W_seq fun K24 hK24 => ?_; refine W_seq fun K25 hK25 => ?_; refine W_region ?_; refine xm rfl rfl ?_; refine xv (ld rfl rfl isAgg47) rfl ?_
        refine xv (v_eqo (a := x.uex) (b := x.eof) rfl rfl rfl hneu (AtH.there (h := AtH.there (h := AtH.there (h := AtH.there (h := AtH.there (h := AtH.there (h := AtH.there (h := AtH.there (h := hbu))))))))) (AtH.there (h := AtH.there (h := AtH.there (h := AtH.there (h := AtH.there (h := AtH.there (h := AtH.there (h := AtH.there (h := hbe)))))))))) rfl ?_; refine WO_nil (sq_n (hK25 _ _ ?_))
        refine W.keep [0,4,5,6,8,68] rfl ?_; refine W_cond_f rfl ?_; refine W_skip (sq_n (hK24 _ _ ?_)); refine W_seq fun K26 hK26 => ?_; refine W_region ?_; refine xm rfl rfl ?_; refine xm rfl rfl ?_; refine xn rfl rfl ?_; refine xp (v_fa (q := 3) rfl underlying87 rfl rfl sizeOf47 rfl) rfl ?_; refine wst rfl rfl rfl sizeOf47 rfl rfl rfl ?_; refine WO_nil (sq_n (hK26 _ _ ?_)); refine W.keep [0,4,5,6] rfl ?_
        refine W_seq fun K27 hK27 => ?_; refine W_draw mixed ?_; refine WA_k (fuel := 0) [0,1,2,3,4,5,6] rfl (by kernel_rfl) ?_; refine ym rfl rfl rfl ?_; refine ym rfl rfl rfl ?_; refine yp rfl (v_nil rfl rfl) rfl ?_; refine yp rfl (v_fa (q := 3) rfl underlying87 rfl rfl sizeOf47 rfl) rfl ?_; refine yv rfl (ld rfl rfl isAgg47) rfl ?_; refine yp rfl (v_as rfl rfl) rfl ?_; refine yp rfl (v_as rfl rfl) rfl ?_
        refine WK_nil ?_; refine WA_nil (by kernel_rfl) (sq_n (hK27 _ _ ?_)); refine W.keep [0,6,4,5] rfl ?_; refine W_ret (sq_r (ret_of (v := _) rfl ?_)); exact ⟨(FSt.mk yro yb ynb yh1 yh2 ywr yrd yfull yb0 yb1 yb2 yb3 ystep ysst yfin (_) ytr yhl yhd ycl ycd (x.S.length) (pr3) yY yX yC yG), T1, _, u0, u1, u2, u3, rfl, hT1, hbt, rfl, .inr ⟨Nat.le_refl _, .inr ⟨.inl (.inl rfl), fun L h => by have := h.2.2.1; omega⟩⟩⟩
  · have hzr : ∀ L, ¬ ZOk x R L := fun L h => by rw [h.1] at hRf; cases hRf
    have hze : ZErr x e := .inl hek; rcases hek with rfl | ⟨z, rfl⟩ | ⟨z, rfl⟩
    · skip
      refine W_draw mixed ?_; refine WA_k (fuel := 0) [0,1,2,3,4,5] rfl (by kernel_rfl) ?_; refine ym rfl rfl rfl ?_; refine yp rfl (v_nil rfl rfl) rfl ?_; refine yp rfl (v_fa (q := 3) rfl underlying87 rfl rfl sizeOf47 rfl) rfl ?_; refine yv rfl (ld rfl rfl isAgg47) rfl ?_; refine yv rfl (ld rfl rfl isAgg47) rfl ?_
      refine yv rfl (v_neqo (a := x.uex) (b := x.eof) rfl rfl rfl hneu (AtH.there (h := AtH.there (h := AtH.there (h := AtH.there (h := AtH.there (h := AtH.there (h := AtH.there (h := AtH.there (h := hbu))))))))) (AtH.there (h := AtH.there (h := AtH.there (h := AtH.there (h := AtH.there (h := AtH.there (h := AtH.there (h := AtH.there (h := hbe)))))))))) rfl ?_; refine WK_nil ?_
      refine WA_nil (by kernel_rfl) (sq_n (hK8 _ _ ?_)); refine W.keep [0,4,5,6,46] rfl ?_; refine W_cond_t rfl ?_; refine W_seq fun K28 hK28 => ?_; refine W_draw mixed ?_; refine WA_k (fuel := 0) [0,1,2,3,4,5,6] rfl (by kernel_rfl) ?_; refine ym rfl rfl rfl ?_; refine ym rfl rfl rfl ?_; refine yp rfl (v_nil rfl rfl) rfl ?_; refine yp rfl (v_fa (q := 3) rfl underlying87 rfl rfl sizeOf47 rfl) rfl ?_
      refine yv rfl (ld rfl rfl isAgg47) rfl ?_; refine yp rfl (v_as rfl rfl) rfl ?_; refine yp rfl (v_as rfl rfl) rfl ?_; refine WK_nil ?_; refine WA_nil (by kernel_rfl) (sq_n (hK28 _ _ ?_)); refine W.keep [0,6,4,5] rfl ?_; refine W_ret (sq_r (ret_of (v := _) rfl ?_))
      exact ⟨(FSt.mk yro yb ynb yh1 yh2 ywr yrd yfull yb0 yb1 yb2 yb3 ystep ysst yfin yerr ytr yhl yhd ycl ycd (yi) ypr yY yX yC yG), T1, _, t0, t1, t2, t3, rfl, hT1, hbt, rfl, .inr ⟨hi2, .inr ⟨hze, hzr⟩⟩⟩
    · skip
      refine W_draw mixed ?_; refine WA_k (fuel := 0) [0,1,2,3,4,5] rfl (by kernel_rfl) ?_; refine ym rfl rfl rfl ?_; refine yp rfl (v_nil rfl rfl) rfl ?_; refine yp rfl (v_fa (q := 3) rfl underlying87 rfl rfl sizeOf47 rfl) rfl ?_; refine yv rfl (ld rfl rfl isAgg47) rfl ?_; refine yv rfl (ld rfl rfl isAgg47) rfl ?_; refine yp rfl (v_neqt rfl rfl rfl (by decide)) rfl ?_; refine WK_nil ?_
      refine WA_nil (by kernel_rfl) (sq_n (hK8 _ _ ?_)); refine W.keep [0,4,5,6,46] rfl ?_; refine W_cond_t rfl ?_; refine W_seq fun K29 hK29 => ?_; refine W_draw mixed ?_; refine WA_k (fuel := 0) [0,1,2,3,4,5,6] rfl (by kernel_rfl) ?_; refine ym rfl rfl rfl ?_; refine ym rfl rfl rfl ?_; refine yp rfl (v_nil rfl rfl) rfl ?_; refine yp rfl (v_fa (q := 3) rfl underlying87 rfl rfl sizeOf47 rfl) rfl ?_
      refine yv rfl (ld rfl rfl isAgg47) rfl ?_; refine yp rfl (v_as rfl rfl) rfl ?_; refine yp rfl (v_as rfl rfl) rfl ?_; refine WK_nil ?_; refine WA_nil (by kernel_rfl) (sq_n (hK29 _ _ ?_)); refine W.keep [0,6,4,5] rfl ?_; refine W_ret (sq_r (ret_of (v := _) rfl ?_))
      exact ⟨(FSt.mk yro yb ynb yh1 yh2 ywr yrd yfull yb0 yb1 yb2 yb3 ystep ysst yfin yerr ytr yhl yhd ycl ycd (yi) ypr yY yX yC yG), T1, _, t0, t1, t2, t3, rfl, hT1, hbt, rfl, .inr ⟨hi2, .inr ⟨hze, hzr⟩⟩⟩
    · skip
      refine W_draw mixed ?_; refine WA_k (fuel := 0) [0,1,2,3,4,5] rfl (by kernel_rfl) ?_; refine ym rfl rfl rfl ?_; refine yp rfl (v_nil rfl rfl) rfl ?_; refine yp rfl (v_fa (q := 3) rfl underlying87 rfl rfl sizeOf47 rfl) rfl ?_; refine yv rfl (ld rfl rfl isAgg47) rfl ?_; refine yv rfl (ld rfl rfl isAgg47) rfl ?_; refine yp rfl (v_neqt rfl rfl rfl (by decide)) rfl ?_; refine WK_nil ?_
      refine WA_nil (by kernel_rfl) (sq_n (hK8 _ _ ?_)); refine W.keep [0,4,5,6,46] rfl ?_; refine W_cond_t rfl ?_; refine W_seq fun K30 hK30 => ?_; refine W_draw mixed ?_; refine WA_k (fuel := 0) [0,1,2,3,4,5,6] rfl (by kernel_rfl) ?_; refine ym rfl rfl rfl ?_; refine ym rfl rfl rfl ?_; refine yp rfl (v_nil rfl rfl) rfl ?_; refine yp rfl (v_fa (q := 3) rfl underlying87 rfl rfl sizeOf47 rfl) rfl ?_
      refine yv rfl (ld rfl rfl isAgg47) rfl ?_; refine yp rfl (v_as rfl rfl) rfl ?_; refine yp rfl (v_as rfl rfl) rfl ?_; refine WK_nil ?_; refine WA_nil (by kernel_rfl) (sq_n (hK30 _ _ ?_)); refine W.keep [0,6,4,5] rfl ?_; refine W_ret (sq_r (ret_of (v := _) rfl ?_))
      exact ⟨(FSt.mk yro yb ynb yh1 yh2 ywr yrd yfull yb0 yb1 yb2 yb3 ystep ysst yfin yerr ytr yhl yhd ycl ycd (yi) ypr yY yX yC yG), T1, _, t0, t1, t2, t3, rfl, hT1, hbt, rfl, .inr ⟨hi2, .inr ⟨hze, hzr⟩⟩⟩
theorem zClose_spec {s : FSt} (hx : x.Ok) (he : s.err = errV x.eof) : CallsL Tryz.prog 108 #[.pointer (some ⟨zb, 0, none⟩)] ((zb, .cells (List.toArray [.iface 42 (.pointer (some ⟨x.k, 0, none⟩)), .iface 150 (.pointer (some ⟨x.fb, 0, none⟩)), .iface 152 (.pointer (some ⟨gb, 0, none⟩)), errV x.eof, bV t0, bV t1, bV t2, bV t3]) 87 (0, 0)) :: (gb, digO y) :: s.H x) fun v H' => v = .nilIface ∧ H' = (zb, .cells (List.toArray [.iface 42 (.pointer (some ⟨x.k, 0, none⟩)), .iface 150 (.pointer (some ⟨x.fb, 0, none⟩)), .iface 152 (.pointer (some ⟨gb, 0, none⟩)), .nilIface, bV t0, bV t1, bV t2, bV t3]) 87 (0, 0)) :: (gb, digO y) :: s.H x := by
  obtain ⟨yro, yb, ynb, yh1, yh2, ywr, yrd, yfull, yb0, yb1, yb2, yb3, ystep, ysst, yfin, yerr, ytr, yhl, yhd, ycl, ycd, yi, ypr, yY, yX, yC, yG⟩ := s; have hse := he; dsimp only at he; subst he; obtain ⟨_, _, _, hg0⟩ := (hx.gd.app yG).g0; refine CallsL_of func108 rfl ntmps108 rfl ?_; try dsimp only [initE, Nat.zero_add]
  refine W_seq fun K1 hK1 => ?_; refine W_region ?_; refine xa rfl rfl ?_; refine WO_nil (sq_n (hK1 _ _ ?_)); refine W_seq fun K2 hK2 => ?_; refine W_seq fun K3 hK3 => ?_; refine W_draw mixed ?_; refine WA_k (fuel := 0) [0,1,2,3,4,5,6,7,8,9,10,11,12] rfl (by kernel_rfl) ?_; refine ym rfl rfl rfl ?_; refine yp rfl (v_nil rfl rfl) rfl ?_; refine yp rfl (v_fa (q := 3) rfl underlying87 rfl rfl sizeOf47 rfl) rfl ?_
  refine yv rfl (ld rfl rfl isAgg47) rfl ?_; refine yp rfl (v_nei rfl rfl rfl) rfl ?_; refine ym rfl rfl rfl ?_; refine ym rfl rfl rfl ?_; refine yp rfl (v_nil rfl rfl) rfl ?_; refine yp rfl (v_fa (q := 3) rfl underlying87 rfl rfl sizeOf47 rfl) rfl ?_; refine yv rfl (ld rfl rfl isAgg47) rfl ?_; refine yv rfl (ld rfl rfl isAgg47) rfl ?_; refine yp rfl (v_neqs (a := x.eof) rfl rfl rfl) rfl ?_
  refine yp rfl (v_pt rfl rfl rfl) rfl ?_; refine WK_nil ?_; refine WA_nil (by kernel_rfl) (sq_n (hK3 _ _ ?_)); refine W.keep [0,2,15] rfl ?_; refine W_cond_f rfl ?_; refine W_skip (sq_n (hK2 _ _ ?_)); refine W_seq fun K4 hK4 => ?_; refine W_region ?_; refine xm rfl rfl ?_; refine xm rfl rfl ?_; refine xn rfl rfl ?_; refine xp (v_fa (q := 1) rfl underlying87 rfl rfl sizeOf45 rfl) rfl ?_
  refine xv (ld rfl rfl isAgg45) rfl ?_; refine wc (e_i rfl rfl rfl (m_Close150 _) call118) rfl rfl rfl (flateClose_spec hx hse) (.skip (.skip .all)) ?_; rintro _ _ ⟨rfl, rfl⟩; (try simp only [ap4]); refine xn rfl rfl ?_; refine xp (v_fa (q := 3) rfl underlying87 rfl rfl sizeOf47 rfl) rfl ?_; refine wst rfl rfl rfl sizeOf47 rfl rfl rfl ?_; refine WO_nil (sq_n (hK4 _ _ ?_)); refine W.keep [0,2] rfl ?_
  refine W_seq fun K5 hK5 => ?_; refine W_region ?_; refine xm rfl rfl ?_; refine xn rfl rfl ?_; refine xp (v_fa (q := 3) rfl underlying87 rfl rfl sizeOf47 rfl) rfl ?_; refine xv (ld rfl rfl isAgg47) rfl ?_; refine xa rfl rfl ?_; refine WO_nil (sq_n (hK5 _ _ ?_)); refine W.keep [2] rfl ?_; refine W_ret (ret_of (v := _) rfl ?_); exact ⟨rfl, rfl⟩
end
end Go.Proofs.YtpbahgddoamhgaaGreatDoor
namespace Go.Proofs.YtpbahgddoamhgaaGreatDoor
open Go.Proofs.Tryz
open Go Sx Pu
set_option maxRecDepth 10000

section
variable {x : Cx} {R : List Nat × RS} {O Dl T : List Nat} {y pb zb gb n t0 t1 t2 t3 : Nat} {c : List Value} {ty : TypeId}
set_option maxHeartbeats 4000000 in
theorem drain_spec {s : FSt} (hx : x.Ok) (h34 : x.S.length < 2 ^ 34) (hg : Good x O [] T s) (hr : RSt x R O y s) :
    CallsL Tryz.prog 22 #[.iface 80 (.pointer (some ⟨zb, 0, none⟩)), .slice none 0 0] ((zb, .cells (List.toArray [.iface 42 (.pointer (some ⟨x.k, 0, none⟩)), .iface 150 (.pointer (some ⟨x.fb, 0, none⟩)), .iface 152 (.pointer (some ⟨gb, 0, none⟩)), .nilIface, bV t0, bV t1, bV t2, bV t3]) 87 (0, 0)) :: (gb, digO 1) :: s.H x) fun v H' =>
      ∃ s' L e t0 t1 t2 t3 p cap Hs, v = .tuple #[.slice p L.length cap, e] ∧ OwnV bV 5 p cap L Hs ∧ L.length ≤ 258 * (8 * x.B.length + 300) + 512 ∧ (∀ c ∈ L, c < 256) ∧ ZEnd x R L e s' ∧ H' = Hs ++ ((zb, .cells (List.toArray [.iface 42 (.pointer (some ⟨x.k, 0, none⟩)), .iface 150 (.pointer (some ⟨x.fb, 0, none⟩)), .iface 152 (.pointer (some ⟨gb, 0, none⟩)), e, bV t0, bV t1, bV t2, bV t3]) 87 (0, 0)) :: (gb, digO (pk (adl L (1, 0)))) :: s'.H x) := by
  have hlen := hx.src.len; refine CallsL_of func22 rfl ntmps22 rfl ?_; try dsimp only [initE, Nat.zero_add]
  refine W_seq fun K1 hK1 => ?_; refine W_region ?_; refine xa rfl rfl ?_; refine xa rfl rfl ?_; refine WO_nil (sq_n (hK1 _ _ ?_)); refine W_seq fun K2 hK2 => ?_; refine W_region ?_; refine xa rfl rfl ?_; refine WO_nil (sq_n (hK2 _ _ ?_)); refine W_seq fun K3 hK3 => ?_; refine W_region ?_; refine xa rfl rfl ?_; refine WO_nil (sq_n (hK3 _ _ ?_)); refine W_block ?_
  refine W_loop (fun y E H => ∃ Dl s O T y2 i t0 t1 t2 t3 p cap Hs, y = 258 * (8 * x.B.length + 300) - Dl.length ∧ i ≤ Dl.length ∧ Good x O Dl T s ∧ RSt x R O y2 s ∧ OwnV bV 5 p cap Dl Hs ∧ Sub E [(0, .iface 80 (.pointer (some ⟨zb, 0, none⟩))), (1, .slice none 0 0), (6, .slice p Dl.length cap), (7, iV i)] ∧ H = Hs ++ ((zb, .cells (List.toArray [.iface 42 (.pointer (some ⟨x.k, 0, none⟩)), .iface 150 (.pointer (some ⟨x.fb, 0, none⟩)), .iface 152 (.pointer (some ⟨gb, 0, none⟩)), .nilIface, bV t0, bV t1, bV t2, bV t3]) 87 (0, 0)) :: (gb, digO (pk (adl Dl (1, 0)))) :: s.H x)) (m := _) (⟨[], s, O, T, y, 0, t0, t1, t2, t3, none, 0, [], rfl, Nat.le_refl _, hg, hr, OwnV.nil, ⟨rfl, rfl, rfl, rfl, trivial⟩, rfl⟩) ?_
  clear hg hr; rintro z E H ⟨Dl, s, O, T, y2, i, t0, t1, t2, t3, p, cap, Hs, rfl, hi, hg, hr, hO, hE, rfl⟩; refine W.env hE ?_
  have hDl : Dl.length ≤ 258 * (8 * x.B.length + 300) := by
    obtain ⟨pd, h1, _⟩ := hg.out; have := hg.ol.1; rw [h1, List.length_append, List.length_append] at this; omega
  have hDb : ∀ c ∈ Dl, c < 256 := fun c hc => by
    obtain ⟨pd, h1, _⟩ := hg.out; exact hg.ol.2 c (by rw [h1]; simp [hc])
  refine W_seq fun K4 hK4 => ?_; refine W_block ?_; refine W_seq fun K5 hK5 => ?_; refine W_region ?_; refine xa rfl rfl ?_; refine WO_nil (sq_n (hK5 _ _ ?_)); refine W_seq fun K6 hK6 => ?_; refine W_seq fun K7 hK7 => ?_; refine W_region ?_; refine xm rfl rfl ?_; refine xp (v_len rfl underlying23 rfl) rfl ?_; refine xp (v_gt rfl rfl rfl (dF (by omega))) rfl ?_; refine WO_nil (sq_n (hK7 _ _ ?_)); refine W_cond_f rfl ?_
  refine W_skip (sq_n (hK6 _ _ ?_)); refine W_seq fun K8 hK8 => ?_; refine W_region ?_; refine xm rfl rfl ?_; refine ws (v_mk (bytes := 1) rfl underlying22 sizeOf5 typeInfo5 rfl zeroValue5 rfl rfl (by omega) (by omega) rfl rfl) rfl rfl rfl ?_; rintro _ _ ⟨b25, rfl, rfl, hb25⟩; refine xa rfl rfl ?_; refine WO_nil (sq_n (hK8 _ _ ?_)); refine W_seq fun K9 hK9 => ?_; refine W_region ?_; refine xm rfl rfl ?_
  refine xm rfl rfl ?_; refine wc (e_i rfl rfl rfl (m_Read80 _) call109) rfl rfl rfl (zRead_spec (n := 512) (dcap := 512) hx hg hr (by decide) (Nat.le_refl _) (by decide) (by simp)) (.cons .here .behind) ?_; rintro _ _ ⟨s2, T1, e, u0, u1, u2, u3, rfl, hT1, hbt, rfl, hcase⟩; (try simp only [ap4]); refine xm rfl rfl ?_; refine xp (v_ex rfl rfl rfl) rfl ?_; refine xp (v_ex rfl rfl rfl) rfl ?_; refine xa rfl rfl ?_
  refine xa rfl rfl ?_; refine WO_nil (sq_n (hK9 _ _ ?_)); refine W_seq fun K10 hK10 => ?_; refine W_region ?_; refine xm rfl rfl ?_; refine xm rfl rfl ?_; refine xm rfl rfl ?_; refine xp (v_slp rfl underlying22 sizeOf5 rfl .none (.some rfl) .none (by omega) (by omega) (by omega) (by decide)) rfl ?_; rw [pmv_zero]
  refine wapp (bytes := 1) rfl underlying22 underlying22 sizeOf5 typeInfo5 rfl zeroValue5 rfl rfl rfl hO rfl (datPut.app Hs) rfl (fun _ => rfl) (by omega) (by omega) rfl rfl rfl ?_; intro p3 c3 Hs3 hO3; refine xa rfl rfl ?_; refine WO_nil (sq_n (hK10 _ _ ?_)); refine W_seq fun K11 hK11 => ?_; refine W.drop (.pre (.skip .all)) ?_; rcases hcase with ⟨rfl, hT0, O2, T2, y3, hg2, hr2⟩ | hend
  · skip
    refine W_region ?_; refine xm rfl rfl ?_; refine xp (v_nen rfl rfl) rfl ?_; refine WO_nil (sq_n (hK11 _ _ ?_)); refine W_cond_f rfl ?_; refine W_skip (bl_n (sq_n (hK4 _ _ ?_))); refine W_region ?_; refine xm rfl rfl ?_; refine xp (n_add rfl rfl rfl kI (by omega)) rfl ?_; refine xa rfl rfl ?_; refine WO_nil (sq_n (?_)); skip
    have hDl2 : (Dl ++ T1).length ≤ 258 * (8 * x.B.length + 300) := by
      obtain ⟨pd, h1, _⟩ := hg2.out; have := hg2.ol.1; rw [h1, List.length_append, List.length_append] at this; omega
    rw [List.length_append] at hDl2; exact ⟨258 * (8 * x.B.length + 300) - (Dl ++ T1).length, by rw [List.length_append]; omega, Dl ++ T1, s2, O2, T2, y3, _, u0, u1, u2, u3, p3, c3, Hs3, rfl, by rw [List.length_append]; omega, hg2, hr2, hO3, ⟨rfl, rfl, rfl, rfl, trivial⟩, rfl⟩
  · have hie : isIf e = true := by
      rcases hend.2 with ⟨rfl, _⟩ | ⟨h | rfl, _⟩
      · rfl
      · exact h.isIf
      · rfl
    refine W_region ?_; refine xm rfl rfl ?_; refine xp (v_nei rfl rfl hie) rfl ?_; refine WO_nil (sq_n (hK11 _ _ ?_)); refine W_cond_t rfl ?_; refine W_seq fun K12 hK12 => ?_; refine W_region ?_; refine xm rfl rfl ?_; refine xm rfl rfl ?_; refine xa rfl rfl ?_; refine xa rfl rfl ?_; refine WO_nil (sq_n (hK12 _ _ ?_)); refine W_ret (bl_r (sq_r (sq_r (bl_r (ret_of (v := _) rfl ?_)))))
    exact ⟨s2, Dl ++ T1, e, u0, u1, u2, u3, p3, c3, Hs3, rfl, hO3, by rw [List.length_append]; omega, fun c hc => (List.mem_append.1 hc).elim (hDb c) (hbt c), hend, rfl⟩
end
end Go.Proofs.YtpbahgddoamhgaaGreatDoor
namespace Go.Proofs.YtpbahgddoamhgaaGreatDoor
open Go.Proofs.Tryz
open Go Sx Pu
set_option maxRecDepth 10000

section
variable {D : Hl} {e : Value} {eof shb uex hdr dic chk : Addr}
theorem is_ne (hG : GD D eof shb uex hdr dic chk) {a b : Addr} (ha : a ∈ [eof, shb, uex, hdr, dic, chk]) (hb : b ∈ [eof, shb, uex, hdr, dic, chk]) (hne : a ≠ b) : CallsL Tryz.prog 38 #[errV a, errV b] D fun v H' => v = .bool false ∧ H' = D := by
  obtain ⟨_, _, _, h1⟩ := hG.bl a ha; obtain ⟨_, _, _, h2⟩ := hG.bl b hb; exact is_other38 hne h1 h2
theorem faultOf_ptr (hG : GD D eof shb uex hdr dic chk) {a : Addr} (ha : a ∈ [eof, shb, uex, hdr, dic, chk]) : CallsL Tryz.prog 20 #[errV a] D fun v H' => ∃ f, f ≠ 0 ∧ f < 5 ∧ v = iV f ∧ H' = D := by
  obtain ⟨_, _, _, hg1⟩ := hG.g1; obtain ⟨_, _, _, hg2⟩ := hG.g2; obtain ⟨_, _, _, hg3⟩ := hG.g3; by_cases h1 : a = hdr
  · subst h1; refine CallsL_of func20 rfl ntmps20 rfl ?_; try dsimp only [initE, Nat.zero_add]
    refine W_seq fun K1 hK1 => ?_; refine W_region ?_; refine xa rfl rfl ?_; refine WO_nil (sq_n (hK1 _ _ ?_)); refine W_seq fun K2 hK2 => ?_; refine W_block ?_; refine W_seq fun K3 hK3 => ?_; refine W_region ?_; refine xm rfl rfl ?_; refine xp (v_eqin rfl rfl rfl) rfl ?_; refine xa rfl rfl ?_; refine WO_nil (sq_n (hK3 _ _ ?_)); refine W_cond_f rfl ?_; refine W_seq fun K4 hK4 => ?_; refine W_region ?_
    refine xm rfl rfl ?_; refine xv (ld rfl rfl isAgg47) rfl ?_; refine wc (e_c rfl rfl rfl call38) rfl rfl rfl (is38_same) .nil ?_; rintro _ _ ⟨rfl, rfl⟩; (try simp only [ap4]); refine xa rfl rfl ?_; refine WO_nil (sq_n (hK4 _ _ ?_)); refine W.keep [0,2,6] rfl ?_; refine W_cond_t rfl ?_; refine W_seq fun K5 hK5 => ?_; refine W_region ?_; refine xa rfl rfl ?_; refine WO_nil (sq_n (hK5 _ _ ?_))
    refine W_ret (bl_r (sq_r (ret_of (v := _) rfl ?_))); exact ⟨1, by decide, by decide, rfl, by simp⟩
  · by_cases h2 : a = dic
    · subst h2; refine CallsL_of func20 rfl ntmps20 rfl ?_; try dsimp only [initE, Nat.zero_add]
      refine W_seq fun K1 hK1 => ?_; refine W_region ?_; refine xa rfl rfl ?_; refine WO_nil (sq_n (hK1 _ _ ?_)); refine W_seq fun K2 hK2 => ?_; refine W_block ?_; refine W_seq fun K3 hK3 => ?_; refine W_region ?_; refine xm rfl rfl ?_; refine xp (v_eqin rfl rfl rfl) rfl ?_; refine xa rfl rfl ?_; refine WO_nil (sq_n (hK3 _ _ ?_)); refine W_cond_f rfl ?_; refine W_seq fun K4 hK4 => ?_; refine W_region ?_
      refine xm rfl rfl ?_; refine xv (ld rfl rfl isAgg47) rfl ?_; refine wc (e_c rfl rfl rfl call38) rfl rfl rfl (is_ne hG ha (by simp) h1) .all ?_; rintro _ _ ⟨rfl, rfl⟩; (try simp only [ap4]); refine xa rfl rfl ?_; refine WO_nil (sq_n (hK4 _ _ ?_)); refine W.keep [0,2,6] rfl ?_; refine W_cond_f rfl ?_; refine W_seq fun K5 hK5 => ?_; refine W_region ?_; refine xm rfl rfl ?_; refine xv (ld rfl rfl isAgg47) rfl ?_
      refine wc (e_c rfl rfl rfl call38) rfl rfl rfl (is38_same) .nil ?_; rintro _ _ ⟨rfl, rfl⟩; (try simp only [ap4]); refine xa rfl rfl ?_; refine WO_nil (sq_n (hK5 _ _ ?_)); refine W.keep [0,2,10] rfl ?_; refine W_cond_t rfl ?_; refine W_seq fun K6 hK6 => ?_; refine W_region ?_; refine xa rfl rfl ?_; refine WO_nil (sq_n (hK6 _ _ ?_)); refine W_ret (bl_r (sq_r (ret_of (v := _) rfl ?_)))
      exact ⟨2, by decide, by decide, rfl, by simp⟩
    · by_cases h3 : a = chk
      · subst h3; refine CallsL_of func20 rfl ntmps20 rfl ?_; try dsimp only [initE, Nat.zero_add]
        refine W_seq fun K1 hK1 => ?_; refine W_region ?_; refine xa rfl rfl ?_; refine WO_nil (sq_n (hK1 _ _ ?_)); refine W_seq fun K2 hK2 => ?_; refine W_block ?_; refine W_seq fun K3 hK3 => ?_; refine W_region ?_; refine xm rfl rfl ?_; refine xp (v_eqin rfl rfl rfl) rfl ?_; refine xa rfl rfl ?_; refine WO_nil (sq_n (hK3 _ _ ?_)); refine W_cond_f rfl ?_; refine W_seq fun K4 hK4 => ?_; refine W_region ?_
        refine xm rfl rfl ?_; refine xv (ld rfl rfl isAgg47) rfl ?_; refine wc (e_c rfl rfl rfl call38) rfl rfl rfl (is_ne hG ha (by simp) h1) .all ?_; rintro _ _ ⟨rfl, rfl⟩; (try simp only [ap4]); refine xa rfl rfl ?_; refine WO_nil (sq_n (hK4 _ _ ?_)); refine W.keep [0,2,6] rfl ?_; refine W_cond_f rfl ?_; refine W_seq fun K5 hK5 => ?_; refine W_region ?_; refine xm rfl rfl ?_; refine xv (ld rfl rfl isAgg47) rfl ?_
        refine wc (e_c rfl rfl rfl call38) rfl rfl rfl (is_ne hG ha (by simp) h2) .all ?_; rintro _ _ ⟨rfl, rfl⟩; (try simp only [ap4]); refine xa rfl rfl ?_; refine WO_nil (sq_n (hK5 _ _ ?_)); refine W.keep [0,2,10] rfl ?_; refine W_cond_f rfl ?_; refine W_seq fun K6 hK6 => ?_; refine W_region ?_; refine xm rfl rfl ?_; refine xv (ld rfl rfl isAgg47) rfl ?_
        refine wc (e_c rfl rfl rfl call38) rfl rfl rfl (is38_same) .nil ?_; rintro _ _ ⟨rfl, rfl⟩; (try simp only [ap4]); refine xa rfl rfl ?_; refine WO_nil (sq_n (hK6 _ _ ?_)); refine W.keep [2,14] rfl ?_; refine W_cond_t rfl ?_; refine W_seq fun K7 hK7 => ?_; refine W_region ?_; refine xa rfl rfl ?_; refine WO_nil (sq_n (hK7 _ _ ?_)); refine W_ret (bl_r (sq_r (ret_of (v := _) rfl ?_)))
        exact ⟨3, by decide, by decide, rfl, by simp⟩
      · refine (faultOf_other hG rfl fun t ht => ?_).mono fun v H' h => ⟨4, by decide, by decide, h.1, h.2⟩; rcases ht with rfl | rfl | rfl
        · exact is_ne hG ha (by simp) h1
        · exact is_ne hG ha (by simp) h2
        · exact is_ne hG ha (by simp) h3
theorem faultOf_bad {x : Cx} (hG : GD D x.eof x.shb x.uex x.hdr x.dic x.chk) (h : ZErr x e) : CallsL Tryz.prog 20 #[e] D fun v H' => ∃ f, f ≠ 0 ∧ f < 5 ∧ v = iV f ∧ H' = D := by
  rcases h with (rfl | ⟨z, rfl⟩ | ⟨z, rfl⟩) | rfl
  · exact faultOf_ptr hG (by simp)
  · exact (faultOf_other hG rfl fun t _ => is_int38).mono fun v H' h => ⟨4, by decide, by decide, h.1, h.2⟩
  · exact (faultOf_other hG rfl fun t _ => is_str38).mono fun v H' h => ⟨4, by decide, by decide, h.1, h.2⟩
  · exact faultOf_ptr hG (by simp)
end
theorem Pu.HErr.mem {S : List Nat} {eof shb uex hdr dic chk e : Addr} (h : HErr S uex hdr dic e) : e ∈ [eof, shb, uex, hdr, dic, chk] := by
  cases h <;> simp
theorem Pu.HErr.no {S : List Nat} {uex hdr dic e : Addr} (h : HErr S uex hdr dic e) (o : Nat) : ¬ HOff S o := by
  intro ho; have h2 : hdrOk S := by cases ho <;> assumption
  cases h with
  | short h => have := h2.1; omega
  | head h hn => exact hn h2
  | cut _ ha hl => cases ho with
    | two _ ha2 => omega
    | six _ _ hl2 => omega
  | dict _ ha hl hn => cases ho with
    | two _ ha2 => omega
    | six _ _ _ hn2 => exact hn hn2
theorem Pu.HOff.uniq {S : List Nat} {a b : Nat} (h : HOff S a) (h2 : HOff S b) : a = b := by
  cases h <;> cases h2 <;> first | rfl | omega
theorem Pu.HOff.le {S : List Nat} {o : Nat} (h : HOff S o) : o ≤ S.length := by
  cases h with
  | two h => exact h.1
  | six _ _ hl => exact hl
abbrev rres (B : List Nat) : List Nat × RS := rinf B (8 * B.length + 2) [] 0 ⟨0, false⟩
def unz (S L : List Nat) (rest : Nat) : Prop := ∃ o, HOff S o ∧ (rres (S.drop o)).2.fail = false ∧ (rres (S.drop o)).1 = L ∧ used (rres (S.drop o)) + 4 ≤ (S.drop o).length ∧ num4 (S.drop o) (used (rres (S.drop o))) = adler L ∧ rest = S.length - (o + used (rres (S.drop o)) + 4)
section
variable {p : Option Addr} {cap : Nat} {S : List Nat} {D : Hl} {eof shb uex hdr dic chk : Addr}
theorem hform {a z1 z2 z3 z4 z5 z6 : Nat × Obj} {Hs Y D : Hl} {f : Nat → Value} {p : Option Addr} {L : List Nat} (h : DatV f p L Hs) : ∃ G, a :: (Hs ++ z1 :: z2 :: z3 :: z4 :: z5 :: z6 :: (Y ++ D)) = G ++ D ∧ DatV f p L G :=
  ⟨a :: (Hs ++ z1 :: z2 :: z3 :: z4 :: z5 :: z6 :: Y), by simp, (h.appl _).cons _⟩
def cx0 (p : Option Addr) (cap k fb hb bb cbk o : Nat) (S : List Nat) (eof shb uex hdr dic chk : Addr) (D : Hl) : Cx := ⟨p, cap, k, fb, hb, bb, cbk, .pointer none, S, S.drop o, o, eof, shb, uex, hdr, dic, chk, D⟩
def st0 (o : Nat) (pr : Value) : FSt := ⟨0, wV 0, 0, HD.zero, HD.zero, 0, 0, false, bV 0, bV 0, bV 0, bV 0, 64, 0, false, .nilIface, .slice none 0 0, .pointer none, .pointer none, 0, 0, o, pr, List.replicate 32768 0, List.replicate 316 0, List.replicate 19 0, []⟩
theorem good0 {x : Cx} {o : Nat} {pr : Value} : Good x [] [] [] (st0 o pr) :=
  ⟨Win.init List.length_replicate, Nat.le_refl _, List.length_replicate, List.length_replicate, fun _ => rfl, (show (0 : Nat) < 2 ^ 32 by decide), fun _ => rfl, (show (0 : Nat) < 2 ^ 32 by decide), ⟨none, 0, rfl, Nat.le_refl _, DatV.nil⟩, ⟨[], rfl, rfl⟩, by simp, by simp⟩
theorem rst0 {x : Cx} {pr : Value} (hx : x.Ok) : ∃ y, RSt x (rres x.B) [] y (st0 x.o pr) :=
  ⟨_, .inl ⟨_, ⟨0, 0, ⟨rfl, rfl, Nat.zero_le _, rfl, rfl, (show (0 : Nat) < 32768 by decide), .inl rfl⟩, rfl, .inl ⟨rfl, (show (0 : Nat) ≤ 7 by decide), fun _ => rfl, Nat.zero_le _, 8 * x.B.length + 2, rfl, by omega⟩⟩, rfl⟩⟩
set_option maxHeartbeats 4000000 in
theorem unpack_spec (hG : GD D eof shb uex hdr dic chk) (hd : Dat p S D) (hS : ∀ x ∈ S, x < 256) (hl : S.length < 2 ^ 34) (hcap : S.length ≤ cap) :
    CallsL Tryz.prog 7 #[.slice p S.length cap, .slice none 0 0, .bool false, .slice none 0 0] D fun v H' =>
      ∃ p2 L c2 f rest G, v = .tuple #[.slice p2 L.length c2, iV f, iV rest] ∧ H' = G ++ D ∧ rest ≤ S.length ∧ f < 5 ∧ L.length ≤ c2 ∧ L.length < 2 ^ 46 ∧ (∀ c ∈ L, c < 256) ∧ DatV bV p2 L G ∧ ((f = 0 ∧ unz S L rest) ∨ (f ≠ 0 ∧ ∀ L rest, ¬ unz S L rest)) := by
  refine CallsL_of func7 rfl ntmps7 rfl ?_; try dsimp only [initE, Nat.zero_add]
  refine W_seq fun K1 hK1 => ?_; refine W_region ?_; refine xa rfl rfl ?_; refine xa rfl rfl ?_; refine xa rfl rfl ?_; refine WO_nil (sq_n (hK1 _ _ ?_)); refine W_seq fun K2 hK2 => ?_; refine W_region ?_; refine xm rfl rfl ?_; refine wc (e_c rfl rfl rfl call17) rfl rfl rfl (newReader_spec) .all ?_; rintro _ _ ⟨k, rfl, rfl⟩; (try simp only [ap4]); refine xa rfl rfl ?_; refine WO_nil (sq_n (hK2 _ _ ?_))
  refine W_seq fun K3 hK3 => ?_; refine W_region ?_; refine xm rfl rfl ?_; refine xp (v_mi rfl underlying42 rfl rfl) rfl ?_; refine wc (e_c rfl rfl rfl call18) rfl rfl rfl (zNewReader_spec hG hd hS (by omega) hcap) .all ?_; rintro _ _ (⟨e, i, pr2, he, rfl, hi, rfl⟩ | ⟨zb, o, fb, hb, bb, cbk, gb, pr2, s0, s1, s2, s3, hof, rfl, rfl⟩); all_goals (try simp only [ap4])
  · skip
    refine xm rfl rfl ?_; refine xp (v_ex rfl rfl rfl) rfl ?_; refine xp (v_ex rfl rfl rfl) rfl ?_; refine xa rfl rfl ?_; refine xa rfl rfl ?_; refine WO_nil (sq_n (hK3 _ _ ?_)); refine W.keep [0,1,2,3,8,9,10,11,12,13] rfl ?_; refine W_seq fun K4 hK4 => ?_; refine W_seq fun K5 hK5 => ?_; refine W_region ?_; refine xm rfl rfl ?_; refine WO_nil (sq_n (hK5 _ _ ?_)); refine W_cond_f rfl ?_
    refine W_skip (sq_n (hK4 _ _ ?_)); refine W.keep [3,8,9,10,11,12,13] rfl ?_; refine W_seq fun K6 hK6 => ?_; refine W_seq fun K7 hK7 => ?_; refine W_region ?_; refine xm rfl rfl ?_; refine xp (v_nei rfl rfl rfl) rfl ?_; refine WO_nil (sq_n (hK7 _ _ ?_)); refine W_cond_t rfl ?_; refine W_seq fun K8 hK8 => ?_; refine W_region ?_; refine xm rfl rfl ?_
    refine wc (e_c rfl rfl rfl call20) rfl rfl rfl (faultOf_ptr (hG.cons _) he.mem) .all ?_; rintro _ _ ⟨f, hf, hf5, rfl, rfl⟩; (try simp only [ap4]); refine xm rfl rfl ?_; refine wc (e_c rfl rfl rfl call21) rfl rfl rfl (readerLen_spec (by omega) hi) .all ?_; rintro _ _ ⟨rfl, rfl⟩; (try simp only [ap4]); refine xa rfl rfl ?_; refine xa rfl rfl ?_; refine xa rfl rfl ?_; refine WO_nil (sq_n (hK8 _ _ ?_))
    refine W.keep [3,11,12,13,8,9,10] rfl ?_; refine W_ret (sq_r (ret_of (v := _) rfl ?_)); exact ⟨none, [], 0, f, S.length - i, [(k, _)], rfl, rfl, by omega, hf5, Nat.le_refl _, by decide, by simp, DatV.nil, .inr ⟨hf, fun L r ⟨o, ho, _⟩ => he.no o ho⟩⟩
  · obtain ⟨x, hxd⟩ : ∃ x, x = cx0 p cap k fb hb bb cbk o S eof shb uex hdr dic chk D := ⟨_, rfl⟩
    have hx : x.Ok := by
      subst hxd; exact ⟨⟨hd, hS, show S.length < 2 ^ 40 by omega, rfl, hof.le⟩, hG, hcap⟩
    obtain ⟨y0, hr0⟩ := rst0 (x := x) (pr := pr2) hx; have hxS : x.S = S := by rw [hxd]; rfl
    have hxo : x.o = o := by rw [hxd]; rfl
    have hxB : x.B = S.drop o := by rw [hxd]; rfl
    have hxD : x.D = D := by rw [hxd]; rfl
    have hxk : x.k = k := by rw [hxd]; rfl
    refine xm rfl rfl ?_; refine xp (v_ex rfl rfl rfl) rfl ?_; refine xp (v_ex rfl rfl rfl) rfl ?_; refine xa rfl rfl ?_; refine xa rfl rfl ?_; refine WO_nil (sq_n (hK3 _ _ ?_)); refine W.keep [0,1,2,3,8,9,10,11,12,13] rfl ?_; refine W_seq fun K9 hK9 => ?_; refine W_seq fun K10 hK10 => ?_; refine W_region ?_; refine xm rfl rfl ?_; refine WO_nil (sq_n (hK10 _ _ ?_)); refine W_cond_f rfl ?_
    refine W_skip (sq_n (hK9 _ _ ?_)); refine W.keep [3,8,9,10,11,12,13] rfl ?_; refine W_seq fun K11 hK11 => ?_; refine W_seq fun K12 hK12 => ?_; refine W_region ?_; refine xm rfl rfl ?_; refine xp (v_nen rfl rfl) rfl ?_; refine WO_nil (sq_n (hK12 _ _ ?_)); refine W_cond_f rfl ?_; refine W_skip (sq_n (hK11 _ _ ?_)); refine W_seq fun K13 hK13 => ?_
    refine W.drop (H' := (zb, .cells (List.toArray [.iface 42 (.pointer (some ⟨x.k, 0, none⟩)), .iface 150 (.pointer (some ⟨x.fb, 0, none⟩)), .iface 152 (.pointer (some ⟨gb, 0, none⟩)), .nilIface, bV s0, bV s1, bV s2, bV s3]) 87 (0, 0)) :: (gb, digO 1) :: (st0 x.o pr2).H x) (.of (H2 := []) (by subst hxd; rw [List.append_nil]; exact List.Perm.refl _)) ?_; rw [← hxk]; refine W_region ?_; refine xm rfl rfl ?_
    refine xm rfl rfl ?_; refine wc (e_c rfl rfl rfl call22) rfl rfl rfl (drain_spec hx (by rw [hxS]; exact hl) good0 hr0) .all ?_; rintro _ _ ⟨⟨yro, yb, ynb, yh1, yh2, ywr, yrd, yfull, yb0, yb1, yb2, yb3, ystep, ysst, yfin, yerr, ytr, yhl, yhd, ycl, ycd, yi, ypr, yY, yX, yC, yG⟩, L, e, u0, u1, u2, u3, p2, c2, Hs, rfl, hO, hLl, hLb, hend, rfl⟩; obtain ⟨hi2, hend⟩ := hend; dsimp only at hi2; have hlx := hx.src.len
    have hLS := congrArg List.length hxS; have hGH : ∀ a b c d e f g, GD (a :: b :: c :: d :: e :: f :: g :: (yG ++ x.D)) x.eof x.shb x.uex x.hdr x.dic x.chk := fun a b c d e f g => (((((((hx.gd.app yG).cons _).cons _).cons _).cons _).cons _).cons _).cons _; obtain ⟨_, _, _, hg0⟩ := (hx.gd.app yG).g0; obtain ⟨_, _, _, hbe⟩ := (hx.gd.app yG).bl x.eof (by simp); obtain ⟨_, _, _, hbu⟩ := (hx.gd.app yG).bl x.uex (by simp)
    obtain ⟨_, _, _, hbc⟩ := (hx.gd.app yG).bl x.chk (by simp)
    have hne0 : ∀ a ∈ [x.shb, x.uex, x.hdr, x.dic, x.chk], a ≠ x.eof := fun a ha e => by
      have := hx.gd.ne; rw [List.nodup_cons] at this; exact this.1 (e ▸ ha)
    dsimp only [FSt.H, FSt.c, FSt.tail]; (try simp only [ap4]); refine xm rfl rfl ?_; refine xp (v_ex rfl rfl rfl) rfl ?_; refine xp (v_ex rfl rfl rfl) rfl ?_; refine xa rfl rfl ?_; refine xa rfl rfl ?_; refine WO_nil (sq_n (hK13 _ _ ?_)); refine W.keep [9,10,11,12,8,13] rfl ?_; refine W_seq fun K14 hK14 => ?_; refine W_seq fun K15 hK15 => ?_; rcases hend with ⟨rfl, hse, hz, hsi⟩ | ⟨hze, hno⟩
    · dsimp only at hsi; obtain ⟨hz1, hz2, hz3, hz4⟩ := hz; rw [hxB] at hz1 hz2 hz3 hz4 hsi; refine W_region ?_; refine xm rfl rfl ?_; refine xv (ld rfl rfl isAgg47) rfl ?_; refine xp (v_eqs (a := x.eof) rfl rfl rfl) rfl ?_; refine WO_nil (sq_n (hK15 _ _ ?_)); refine W_cond_t rfl ?_; refine W_region ?_; refine xm rfl rfl ?_
      refine wc (e_i rfl rfl rfl (m_Close80 _) call108) rfl rfl rfl (zClose_spec (s := (FSt.mk yro yb ynb yh1 yh2 ywr yrd yfull yb0 yb1 yb2 yb3 ystep ysst yfin yerr ytr yhl yhd ycl ycd yi ypr yY yX yC yG)) hx hse) .behind ?_; rintro _ _ ⟨rfl, rfl⟩; dsimp only [FSt.H, FSt.c, FSt.tail]; (try simp only [ap4]); refine xa rfl rfl ?_; refine WO_nil (sq_n (hK14 _ _ ?_)); refine W.keep [9,10,11,8,13] rfl ?_
      refine W_seq fun K16 hK16 => ?_; refine W_region ?_; refine xm rfl rfl ?_; refine xm rfl rfl ?_; refine wc (e_c rfl rfl rfl call20) rfl rfl rfl (faultOf_nil) .all ?_; rintro _ _ ⟨rfl, rfl⟩; (try simp only [ap4]); refine xm rfl rfl ?_; refine wc (e_c rfl rfl rfl call21) rfl rfl rfl (readerLen_spec (by omega) hi2) (.cons (.app (.there (.there (.there .here)))) .all) ?_; rintro _ _ ⟨rfl, rfl⟩; (try simp only [ap4])
      refine xa rfl rfl ?_; refine xa rfl rfl ?_; refine xa rfl rfl ?_; refine WO_nil (sq_n (hK16 _ _ ?_)); refine W.keep [8,9,10] rfl ?_; refine W_ret (ret_of (v := _) rfl ?_); rw [← hxD]; exact (hform hO.dat).elim fun G hG => ⟨p2, L, c2, 0, x.S.length - yi, G, rfl, hG.1, by omega, by decide, hO.capl, by omega, hLb, hG.2, .inl ⟨rfl, o, hof, hz1, hz2, hz3, hz4, by omega⟩⟩
    · have hze2 := hze; rcases hze with (rfl | ⟨z, rfl⟩ | ⟨z, rfl⟩) | rfl
      · skip
        refine W_region ?_; refine xm rfl rfl ?_; refine xv (ld rfl rfl isAgg47) rfl ?_; refine xv (v_eqo (a := x.uex) (b := x.eof) rfl rfl rfl (hne0 _ (by simp)) inferInstance inferInstance) rfl ?_; refine WO_nil (sq_n (hK15 _ _ ?_)); refine W_cond_f rfl ?_; refine W_skip (sq_n (hK14 _ _ ?_)); refine W.keep [9,10,11,8,13] rfl ?_; refine W_seq fun K17 hK17 => ?_; refine W_region ?_; refine xm rfl rfl ?_
        refine xm rfl rfl ?_; refine wc (e_c rfl rfl rfl call20) rfl rfl rfl (faultOf_bad ((hGH _ _ _ _ _ _ _).app Hs) hze2) .all ?_; rintro _ _ ⟨f, hf, hf5, rfl, rfl⟩; (try simp only [ap4]); refine xm rfl rfl ?_; refine wc (e_c rfl rfl rfl call21) rfl rfl rfl (readerLen_spec (by omega) hi2) (.cons (.app (.there (.there (.there .here)))) .all) ?_; rintro _ _ ⟨rfl, rfl⟩; (try simp only [ap4]); refine xa rfl rfl ?_
        refine xa rfl rfl ?_; refine xa rfl rfl ?_; refine WO_nil (sq_n (hK17 _ _ ?_)); refine W.keep [8,9,10] rfl ?_; refine W_ret (ret_of (v := _) rfl ?_)
        have hnn : ∀ L2 r2, ¬ unz S L2 r2 := by
          intro L2 r2; rintro ⟨o2, ho2, h1, h2, h3, h4, _⟩; obtain rfl := ho2.uniq hof; rw [← hxB] at h1 h2 h3 h4; exact hno L2 ⟨h1, h2, h3, h4⟩
        rw [← hxD]; exact (hform hO.dat).elim fun G hG => ⟨p2, L, c2, f, x.S.length - yi, G, rfl, hG.1, by omega, hf5, hO.capl, by omega, hLb, hG.2, .inr ⟨hf, hnn⟩⟩
      · skip
        refine W_region ?_; refine xm rfl rfl ?_; refine xv (ld rfl rfl isAgg47) rfl ?_; refine xp (v_eqt rfl rfl rfl (by decide)) rfl ?_; refine WO_nil (sq_n (hK15 _ _ ?_)); refine W_cond_f rfl ?_; refine W_skip (sq_n (hK14 _ _ ?_)); refine W.keep [9,10,11,8,13] rfl ?_; refine W_seq fun K18 hK18 => ?_; refine W_region ?_; refine xm rfl rfl ?_; refine xm rfl rfl ?_
        refine wc (e_c rfl rfl rfl call20) rfl rfl rfl (faultOf_bad ((hGH _ _ _ _ _ _ _).app Hs) hze2) .all ?_; rintro _ _ ⟨f, hf, hf5, rfl, rfl⟩; (try simp only [ap4]); refine xm rfl rfl ?_; refine wc (e_c rfl rfl rfl call21) rfl rfl rfl (readerLen_spec (by omega) hi2) (.cons (.app (.there (.there (.there .here)))) .all) ?_; rintro _ _ ⟨rfl, rfl⟩; (try simp only [ap4]); refine xa rfl rfl ?_; refine xa rfl rfl ?_
        refine xa rfl rfl ?_; refine WO_nil (sq_n (hK18 _ _ ?_)); refine W.keep [8,9,10] rfl ?_; refine W_ret (ret_of (v := _) rfl ?_)
        have hnn : ∀ L2 r2, ¬ unz S L2 r2 := by
          intro L2 r2; rintro ⟨o2, ho2, h1, h2, h3, h4, _⟩; obtain rfl := ho2.uniq hof; rw [← hxB] at h1 h2 h3 h4; exact hno L2 ⟨h1, h2, h3, h4⟩
        rw [← hxD]; exact (hform hO.dat).elim fun G hG => ⟨p2, L, c2, f, x.S.length - yi, G, rfl, hG.1, by omega, hf5, hO.capl, by omega, hLb, hG.2, .inr ⟨hf, hnn⟩⟩
      · skip
        refine W_region ?_; refine xm rfl rfl ?_; refine xv (ld rfl rfl isAgg47) rfl ?_; refine xp (v_eqt rfl rfl rfl (by decide)) rfl ?_; refine WO_nil (sq_n (hK15 _ _ ?_)); refine W_cond_f rfl ?_; refine W_skip (sq_n (hK14 _ _ ?_)); refine W.keep [9,10,11,8,13] rfl ?_; refine W_seq fun K19 hK19 => ?_; refine W_region ?_; refine xm rfl rfl ?_; refine xm rfl rfl ?_
        refine wc (e_c rfl rfl rfl call20) rfl rfl rfl (faultOf_bad ((hGH _ _ _ _ _ _ _).app Hs) hze2) .all ?_; rintro _ _ ⟨f, hf, hf5, rfl, rfl⟩; (try simp only [ap4]); refine xm rfl rfl ?_; refine wc (e_c rfl rfl rfl call21) rfl rfl rfl (readerLen_spec (by omega) hi2) (.cons (.app (.there (.there (.there .here)))) .all) ?_; rintro _ _ ⟨rfl, rfl⟩; (try simp only [ap4]); refine xa rfl rfl ?_; refine xa rfl rfl ?_
        refine xa rfl rfl ?_; refine WO_nil (sq_n (hK19 _ _ ?_)); refine W.keep [8,9,10] rfl ?_; refine W_ret (ret_of (v := _) rfl ?_)
        have hnn : ∀ L2 r2, ¬ unz S L2 r2 := by
          intro L2 r2; rintro ⟨o2, ho2, h1, h2, h3, h4, _⟩; obtain rfl := ho2.uniq hof; rw [← hxB] at h1 h2 h3 h4; exact hno L2 ⟨h1, h2, h3, h4⟩
        rw [← hxD]; exact (hform hO.dat).elim fun G hG => ⟨p2, L, c2, f, x.S.length - yi, G, rfl, hG.1, by omega, hf5, hO.capl, by omega, hLb, hG.2, .inr ⟨hf, hnn⟩⟩
      · skip
        refine W_region ?_; refine xm rfl rfl ?_; refine xv (ld rfl rfl isAgg47) rfl ?_; refine xv (v_eqo (a := x.chk) (b := x.eof) rfl rfl rfl (hne0 _ (by simp)) inferInstance inferInstance) rfl ?_; refine WO_nil (sq_n (hK15 _ _ ?_)); refine W_cond_f rfl ?_; refine W_skip (sq_n (hK14 _ _ ?_)); refine W.keep [9,10,11,8,13] rfl ?_; refine W_seq fun K20 hK20 => ?_; refine W_region ?_; refine xm rfl rfl ?_
        refine xm rfl rfl ?_; refine wc (e_c rfl rfl rfl call20) rfl rfl rfl (faultOf_bad ((hGH _ _ _ _ _ _ _).app Hs) hze2) .all ?_; rintro _ _ ⟨f, hf, hf5, rfl, rfl⟩; (try simp only [ap4]); refine xm rfl rfl ?_; refine wc (e_c rfl rfl rfl call21) rfl rfl rfl (readerLen_spec (by omega) hi2) (.cons (.app (.there (.there (.there .here)))) .all) ?_; rintro _ _ ⟨rfl, rfl⟩; (try simp only [ap4]); refine xa rfl rfl ?_
        refine xa rfl rfl ?_; refine xa rfl rfl ?_; refine WO_nil (sq_n (hK20 _ _ ?_)); refine W.keep [8,9,10] rfl ?_; refine W_ret (ret_of (v := _) rfl ?_)
        have hnn : ∀ L2 r2, ¬ unz S L2 r2 := by
          intro L2 r2; rintro ⟨o2, ho2, h1, h2, h3, h4, _⟩; obtain rfl := ho2.uniq hof; rw [← hxB] at h1 h2 h3 h4; exact hno L2 ⟨h1, h2, h3, h4⟩
        rw [← hxD]; exact (hform hO.dat).elim fun G hG => ⟨p2, L, c2, f, x.S.length - yi, G, rfl, hG.1, by omega, hf5, hO.capl, by omega, hLb, hG.2, .inr ⟨hf, hnn⟩⟩
end
end Go.Proofs.YtpbahgddoamhgaaGreatDoor
namespace Go.Proofs.YtpbahgddoamhgaaGreatDoor
open Go.Proofs.Tryz
open Go Sx Pu
set_option maxRecDepth 10000

section
variable {p : Option Addr} {cap rb : Nat} {L B : List Nat} {D : Hl}

theorem block_spec {po p1 p2 : Option Addr} {co c1 c2 : Nat} {out L1 L2 : List Nat} {Ho : Hl} (s : RS) (hd : Dat p B D) (hB : ∀ x ∈ B, x < 256) (hl : B.length < 2 ^ 35) (hs : s.at_ ≤ 8 * B.length) (hO : OwnV bV 5 po co out Ho) (hol : out.length ≤ 258 * s.at_)
    (hd1 : DatI p1 L1 D) (hL1 : L1.length ≤ 320) (h15 : ∀ x ∈ L1, x ≤ 15) (hd2 : DatI p2 L2 D) (hL2 : L2.length ≤ 320) (h25 : ∀ x ∈ L2, x ≤ 15) :
    CallsL Tryz.prog 27 #[.pointer (some ⟨rb, 0, none⟩), .slice po out.length co, .slice p1 L1.length c1, .slice p2 L2.length c2] (Ho ++ (rb, rdO (.slice p B.length cap) s.at_ s.fail) :: D) fun v H' =>
      ∃ p' c' H1, v = .slice p' (rblock B L1 L2 out s).1.length c' ∧ OwnV bV 5 p' c' (rblock B L1 L2 out s).1 H1 ∧ H' = H1 ++ (rb, rdO (.slice p B.length cap) (rblock B L1 L2 out s).2.at_ (rblock B L1 L2 out s).2.fail) :: D := by
  refine CallsL_of func27 rfl ntmps27 rfl ?_; try dsimp only [initE, Nat.zero_add]
  refine W_seq fun K1 hK1 => ?_; refine W_region ?_; refine xa rfl rfl ?_; refine WO_nil (sq_n (hK1 _ _ ?_)); refine W_seq fun K2 hK2 => ?_; refine W_region ?_; refine xm rfl rfl ?_; refine wc (e_c rfl rfl rfl call39) rfl rfl rfl (newCode_spec hd1 hL1 h15) (.app (.skip .all)) ?_; rintro _ _ ⟨b1, rfl, rfl⟩; (try simp only [ap4]); refine xm rfl rfl ?_; refine xp (v_ex rfl rfl rfl) rfl ?_
  refine xp (v_ex rfl rfl rfl) rfl ?_; refine xa rfl rfl ?_; refine xa rfl rfl ?_; refine WO_nil (sq_n (hK2 _ _ ?_)); refine W.keep [0,1,3,8,9,10] rfl ?_; refine W_seq fun K3 hK3 => ?_; refine W_region ?_; refine xm rfl rfl ?_; refine wc (e_c rfl rfl rfl call39) rfl rfl rfl (newCode_spec (hd2.cons _) hL2 h25) (.app (.skip .all)) ?_; rintro _ _ ⟨b2, rfl, rfl⟩; (try simp only [ap4]); refine xm rfl rfl ?_
  refine xp (v_ex rfl rfl rfl) rfl ?_; refine xp (v_ex rfl rfl rfl) rfl ?_; refine xa rfl rfl ?_; refine xa rfl rfl ?_; refine WO_nil (sq_n (hK3 _ _ ?_)); refine W.keep [0,1,8,9,10,11,12] rfl ?_
  refine W_seq_mid (fun E H => ∃ s0 : RS, s0.at_ = s.at_ ∧ rblock B L1 L2 out s = rblk B (ents L1 L1.length) (ents L2 L2.length) (8 * B.length + 1) out s0 ∧ Sub E [(0, .pointer (some ⟨rb, 0, none⟩)), (1, .slice po out.length co), (9, .map (some b1)), (11, .map (some b2))] ∧ H = Ho ++ (rb, rdO (.slice p B.length cap) s0.at_ s0.fail) :: (b2, mapO (ents L2 L2.length)) :: (b1, mapO (ents L1 L1.length)) :: D) ?_ ?_
  · skip
    refine W_seq fun K5 hK5 => ?_; have hstart : ∃ s0 : RS, s0.at_ = s.at_ ∧ s0 = (if okCode L1 = true ∧ okCode L2 = true then s else s.bad) := ⟨_, by split <;> rfl, rfl⟩; rcases h1 : okCode L1 with _ | _
    · obtain ⟨s0, hs0, he0⟩ : ∃ s0 : RS, s0.at_ = s.at_ ∧ rblock B L1 L2 out s = rblk B (ents L1 L1.length) (ents L2 L2.length) (8 * B.length + 1) out s0 ∧ s0.fail = true := ⟨s.bad, rfl, by unfold rblock; rw [if_neg (by simp [h1])], rfl⟩; refine W_region ?_; refine xm rfl rfl ?_; refine xp (v_not rfl rfl rfl) rfl ?_; refine xm rfl rfl ?_; refine xno rfl ?_; refine xno rfl ?_; refine xp (v_pt rfl rfl rfl) rfl ?_
      refine WO_nil (sq_n (hK5 _ _ ?_)); refine W.keep [0,1,8,9,11,34] rfl ?_; refine W_cond_t rfl ?_; refine W_region ?_; refine xm rfl rfl ?_; refine xn rfl rfl ?_; refine xp (v_fa (q := 2) rfl underlying58 rfl rfl sizeOf4 rfl) rfl ?_; refine wst rfl rfl rfl sizeOf4 rfl rfl rfl ?_; refine WO_nil (sq_n (?_)); exact ⟨s0, hs0, he0.1, ⟨rfl, rfl, rfl, rfl, trivial⟩, by rw [hs0, he0.2]⟩
    · skip
      rcases h2 : okCode L2 with _ | _
      · obtain ⟨s0, hs0, he0⟩ : ∃ s0 : RS, s0.at_ = s.at_ ∧ rblock B L1 L2 out s = rblk B (ents L1 L1.length) (ents L2 L2.length) (8 * B.length + 1) out s0 ∧ s0.fail = true := ⟨s.bad, rfl, by unfold rblock; rw [if_neg (by simp [h2])], rfl⟩; refine W_region ?_; refine xm rfl rfl ?_; refine xp (v_not rfl rfl rfl) rfl ?_; refine xm rfl rfl ?_; refine xm rfl rfl ?_; refine xp (v_not rfl rfl rfl) rfl ?_
        refine xp (v_pf rfl rfl rfl) rfl ?_; refine WO_nil (sq_n (hK5 _ _ ?_)); refine W.keep [0,1,8,9,11,34] rfl ?_; refine W_cond_t rfl ?_; refine W_region ?_; refine xm rfl rfl ?_; refine xn rfl rfl ?_; refine xp (v_fa (q := 2) rfl underlying58 rfl rfl sizeOf4 rfl) rfl ?_; refine wst rfl rfl rfl sizeOf4 rfl rfl rfl ?_; refine WO_nil (sq_n (?_))
        exact ⟨s0, hs0, he0.1, ⟨rfl, rfl, rfl, rfl, trivial⟩, by rw [hs0, he0.2]⟩
      · obtain ⟨s0, hs0, he0⟩ : ∃ s0 : RS, s0.at_ = s.at_ ∧ rblock B L1 L2 out s = rblk B (ents L1 L1.length) (ents L2 L2.length) (8 * B.length + 1) out s0 ∧ s0.fail = s.fail := ⟨s, rfl, by unfold rblock; rw [if_pos ⟨h1, h2⟩], rfl⟩; refine W_region ?_; refine xm rfl rfl ?_; refine xp (v_not rfl rfl rfl) rfl ?_; refine xm rfl rfl ?_; refine xm rfl rfl ?_; refine xp (v_not rfl rfl rfl) rfl ?_
        refine xp (v_pf rfl rfl rfl) rfl ?_; refine WO_nil (sq_n (hK5 _ _ ?_)); refine W.keep [0,1,8,9,11,34] rfl ?_; refine W_cond_f rfl ?_; refine W_skip (sq_n (?_)); exact ⟨s0, hs0, he0.1, ⟨rfl, rfl, rfl, rfl, trivial⟩, by rw [hs0, he0.2]⟩
  · rintro E H ⟨s0, hs0, he0, hE, rfl⟩; refine W.env hE ?_; refine W_seq fun K6 hK6 => ?_; refine W_block ?_
    refine W_loop (fun m E H => ∃ k out' s' po co Ho, m = k ∧ rblock B L1 L2 out s = rblk B (ents L1 L1.length) (ents L2 L2.length) k out' s' ∧ s'.at_ ≤ 8 * B.length ∧ out'.length ≤ 258 * s'.at_ ∧ 8 * B.length < k + s'.at_ ∧ OwnV bV 5 po co out' Ho ∧ Sub E [(0, .pointer (some ⟨rb, 0, none⟩)), (1, .slice po out'.length co), (9, .map (some b1)), (11, .map (some b2))] ∧ H = Ho ++ (rb, rdO (.slice p B.length cap) s'.at_ s'.fail) :: (b2, mapO (ents L2 L2.length)) :: (b1, mapO (ents L1 L1.length)) :: D) (m := _) (⟨_, out, s0, po, co, Ho, rfl, he0, by omega, by omega, by omega, hO, ⟨rfl, rfl, rfl, rfl, trivial⟩, rfl⟩) ?_
    rintro m E H ⟨k, out, s, po, co, Ho, rfl, he, hs, hol, hk, hO, hE, rfl⟩; refine W.env hE ?_; have hk0 : m = m - 1 + 1 := by omega
    rw [hk0] at he hk ⊢; generalize m - 1 = m at *; rw [rblk] at he; obtain ⟨at_, fail⟩ := s; refine W_seq fun K7 hK7 => ?_; refine W_seq fun K8 hK8 => ?_; rcases fail with _ | _
    · skip
      refine W_region ?_; refine xm rfl rfl ?_; refine xn rfl rfl ?_; refine xp (v_fa (q := 2) rfl underlying58 rfl rfl sizeOf4 rfl) rfl ?_; refine xv (ld rfl rfl isAgg4) rfl ?_; refine xp (v_not rfl rfl rfl) rfl ?_; refine WO_nil (sq_n (hK8 _ _ ?_)); refine W_cond_t rfl ?_; refine W_skip (sq_n (hK7 _ _ ?_)); refine W_block ?_; refine W_seq fun K9 hK9 => ?_; refine W_region ?_; refine xm rfl rfl ?_
      refine xm rfl rfl ?_; refine wc (e_c rfl rfl rfl call40) rfl rfl rfl (symbol_spec (cap := cap) ⟨at_, false⟩ (.there) ((hd.cons _).cons _) hB (by omega) hs) HSub.behind ?_; rintro _ _ ⟨rfl, rfl⟩; (try simp only [ap4]); refine xa rfl rfl ?_; refine WO_nil (sq_n (hK9 _ _ ?_)); refine W_seq fun K10 hK10 => ?_; refine W_block ?_; refine W_seq fun K11 hK11 => ?_; have q1 := sym_le (l := ents L1 L1.length) hs
      have q3 := @sym_ok B (ents L1 L1.length) ⟨at_, false⟩; rcases hy : sym B (ents L1 L1.length) ⟨at_, false⟩ with ⟨y, a1, f1⟩
      rw [hy] at q1 q3; simp only [hy, Bool.false_eq_true, if_false] at he
      simp only at q1 q3 hs hol hk
      rcases f1 with _ | _
      · skip
        have q3 := (q3 rfl).2; refine W_region ?_; refine xm rfl rfl ?_; refine xn rfl rfl ?_; refine xp (v_fa (q := 2) rfl underlying58 rfl rfl sizeOf4 rfl) rfl ?_; refine xv (ld rfl rfl isAgg4) rfl ?_; refine xm rfl rfl ?_; refine xm rfl rfl ?_; refine xp (n_eq rfl rfl rfl) rfl ?_; refine xp (v_pf rfl rfl rfl) rfl ?_; refine xa rfl rfl ?_; refine WO_nil (sq_n (hK11 _ _ ?_))
        refine W_cond rfl (fun hc2 => ?_) (fun hc2 => ?_)
        · replace hc2 := of_decide_eq_true hc2; rw [if_pos (.inr hc2)] at he; refine W_seq fun K12 hK12 => ?_; refine W.drop (.pre (.cons .here (.skip (.skip .all)))) ?_; refine W_region ?_; refine xm rfl rfl ?_; refine xa rfl rfl ?_; refine WO_nil (sq_n (hK12 _ _ ?_)); refine W_ret (bl_r (sq_r (bl_r (sq_r (bl_r (sq_r (ret_of (v := _) rfl ?_))))))); rw [he]; exact ⟨_, _, _, rfl, hO, rfl⟩
        · replace hc2 := of_decide_eq_false hc2; rw [if_neg (by simp [hc2])] at he; refine W_seq fun K13 hK13 => ?_; refine W_region ?_; refine xm rfl rfl ?_; refine xp (n_lt rfl rfl rfl) rfl ?_; refine xa rfl rfl ?_; refine WO_nil (sq_n (hK13 _ _ ?_)); refine W_cond rfl (fun hc3 => ?_) (fun hc3 => ?_)
          · replace hc3 := of_decide_eq_true hc3; rw [if_pos hc3] at he; refine W_seq fun K14 hK14 => ?_; refine W_region ?_; refine xm rfl rfl ?_; refine xm rfl rfl ?_; refine xp (n_cvm rfl underlying3 underlying5 rfl uB) rfl ?_
            refine wapp1 (bytes := 1) underlying22 sizeOf5 typeInfo5 rfl zeroValue5 rfl hO rfl (fun _ => rfl) (by omega) (by decide) rfl rfl (by rw [Nat.mod_eq_of_lt hc3]) rfl rfl rfl rfl rfl rfl (fun _ => rfl) (fun _ => rfl) ?_; intro vb p3 cap3 Ho3 hO3; refine xa rfl rfl ?_; refine WO_nil (sq_n (hK14 _ _ ?_)); refine W_exit (bl_y rfl (sq_x (bl_x (sq_n (?_))))); first
            | exact ⟨m, by omega, m, _, _, _, _, _, rfl, he, q1, (by simp only [List.length_append, List.length_cons, List.length_nil]; omega), (by simp only; omega), hO3, ⟨rfl, rfl, rfl, rfl, trivial⟩, rfl⟩
            | exact ⟨m, by omega, m, _, ⟨a4, false⟩, _, _, _, rfl, he, q4, (by rw [cpy_length]; simp only; omega), (by simp only; omega), hO2, ⟨rfl, rfl, rfl, rfl, trivial⟩, rfl⟩
          · replace hc3 := of_decide_eq_false hc3; rw [if_neg hc3] at he; refine W_seq fun K15 hK15 => ?_; refine W_region ?_; refine xm rfl rfl ?_; refine xp (n_gt rfl rfl rfl) rfl ?_; refine xa rfl rfl ?_; refine WO_nil (sq_n (hK15 _ _ ?_)); refine W_cond rfl (fun hc4 => ?_) (fun hc4 => ?_)
            · replace hc4 := of_decide_eq_true hc4; rw [if_pos hc4] at he; refine W_seq fun K16 hK16 => ?_; refine W.drop (.pre (.cons .here (.skip (.skip .all)))) ?_; refine W_region ?_; refine xm rfl rfl ?_; refine xn rfl rfl ?_; refine xp (v_fa (q := 2) rfl underlying58 rfl rfl sizeOf4 rfl) rfl ?_; refine wst rfl rfl rfl sizeOf4 rfl rfl rfl ?_; refine WO_nil (sq_n (hK16 _ _ ?_)); refine W_seq fun K17 hK17 => ?_
              refine W_region ?_; refine xm rfl rfl ?_; refine xa rfl rfl ?_; refine WO_nil (sq_n (hK17 _ _ ?_)); refine W_ret (bl_r (sq_r (bl_r (sq_r (bl_r (sq_r (ret_of (v := _) rfl ?_))))))); rw [he]; exact ⟨_, _, _, rfl, hO, rfl⟩
            · replace hc4 := of_decide_eq_false hc4; rw [if_neg hc4] at he; refine W_skip (bl_n (sq_n (hK10 _ _ ?_))); refine W_seq fun K18 hK18 => ?_; refine W_region ?_; refine xm rfl rfl ?_; refine wc (e_c rfl rfl rfl call41) rfl rfl rfl (lengthOf_spec y (by omega) (by omega)) HSub.nil ?_; rintro _ _ ⟨rfl, rfl⟩; (try simp only [ap4]); refine xm rfl rfl ?_; refine xp (v_ex rfl rfl rfl) rfl ?_
              refine xp (v_ex rfl rfl rfl) rfl ?_; refine xa rfl rfl ?_; refine xa rfl rfl ?_; refine WO_nil (sq_n (hK18 _ _ ?_)); refine W_seq fun K19 hK19 => ?_; have t1 := len_table y (by omega) (by omega); have hx2 := rbits_lt B (lenExtra y) ⟨a1, false⟩; refine W_region ?_; refine xm rfl rfl ?_; refine xm rfl rfl ?_; refine xm rfl rfl ?_
              refine wc (e_c rfl rfl rfl call24) rfl rfl rfl (bits_spec (cap := cap) (lenExtra y) ⟨a1, false⟩ ((hd.cons _).cons _) hB (by omega) q1 (by omega)) HSub.behind ?_; rintro _ _ ⟨rfl, rfl⟩; (try simp only [ap4]); refine xp (n_add rfl rfl rfl kI (by omega)) rfl ?_; refine xa rfl rfl ?_; refine WO_nil (sq_n (hK19 _ _ ?_)); refine W_seq fun K20 hK20 => ?_; have q2 := rbits_le (lenExtra y) (s := ⟨a1, false⟩) q1
              have m2 := rbits_mono B (lenExtra y) ⟨a1, false⟩; rcases hz : rbits B (lenExtra y) ⟨a1, false⟩ with ⟨x2, a2, f2⟩
              rw [hz] at q2 m2 hx2; simp only [hz] at he
              simp only at q2 m2 hx2
              refine W_region ?_; refine xm rfl rfl ?_; refine xm rfl rfl ?_; refine wc (e_c rfl rfl rfl call40) rfl rfl rfl (symbol_spec (cap := cap) ⟨a2, f2⟩ (.here) ((hd.cons _).cons _) hB (by omega) q2) HSub.behind ?_; rintro _ _ ⟨rfl, rfl⟩; (try simp only [ap4]); refine xa rfl rfl ?_; refine WO_nil (sq_n (hK20 _ _ ?_)); refine W_seq fun K21 hK21 => ?_; refine W_seq fun K22 hK22 => ?_
              have q3' := sym_le (l := ents L2 L2.length) (s := ⟨a2, f2⟩) q2; have m3 := symF_mono (B := B) (l := ents L2 L2.length) 15 1 0 ⟨a2, f2⟩; change _ ≤ (sym B (ents L2 L2.length) ⟨a2, f2⟩).2.at_ at m3
              rcases hdd : sym B (ents L2 L2.length) ⟨a2, f2⟩ with ⟨d, a3, f3⟩
              rw [hdd] at q3' m3; simp only [hdd] at he
              simp only at q3' m3
              refine W_region ?_; refine xm rfl rfl ?_; refine xp (n_gt rfl rfl rfl) rfl ?_; refine WO_nil (sq_n (hK22 _ _ ?_)); refine W_cond rfl (fun hc5 => ?_) (fun hc5 => ?_)
              · replace hc5 := of_decide_eq_true hc5; rw [if_pos hc5] at he; refine W_seq fun K23 hK23 => ?_; refine W.drop (.pre (.cons .here (.skip (.skip .all)))) ?_; refine W_region ?_; refine xm rfl rfl ?_; refine xn rfl rfl ?_; refine xp (v_fa (q := 2) rfl underlying58 rfl rfl sizeOf4 rfl) rfl ?_; refine wst rfl rfl rfl sizeOf4 rfl rfl rfl ?_; refine WO_nil (sq_n (hK23 _ _ ?_)); refine W_seq fun K24 hK24 => ?_
                refine W_region ?_; refine xm rfl rfl ?_; refine xa rfl rfl ?_; refine WO_nil (sq_n (hK24 _ _ ?_)); refine W_ret (sq_r (bl_r (sq_r (bl_r (sq_r (ret_of (v := _) rfl ?_)))))); rw [he]; exact ⟨_, _, _, rfl, hO, rfl⟩
              · replace hc5 := of_decide_eq_false hc5; rw [if_neg hc5] at he; refine W_skip (sq_n (hK21 _ _ ?_)); refine W_seq fun K25 hK25 => ?_; refine W_region ?_; refine xm rfl rfl ?_; refine wc (e_c rfl rfl rfl call42) rfl rfl rfl (distanceOf_spec d (by omega)) HSub.nil ?_; rintro _ _ ⟨rfl, rfl⟩; (try simp only [ap4]); refine xm rfl rfl ?_; refine xp (v_ex rfl rfl rfl) rfl ?_; refine xp (v_ex rfl rfl rfl) rfl ?_
                refine xa rfl rfl ?_; refine xa rfl rfl ?_; refine WO_nil (sq_n (hK25 _ _ ?_)); refine W_seq fun K26 hK26 => ?_; have t2 := dist_table d (by omega); have hx4 := rbits_lt B (distExtra d) ⟨a3, f3⟩; refine W_region ?_; refine xm rfl rfl ?_; refine xm rfl rfl ?_; refine xm rfl rfl ?_
                refine wc (e_c rfl rfl rfl call24) rfl rfl rfl (bits_spec (cap := cap) (distExtra d) ⟨a3, f3⟩ ((hd.cons _).cons _) hB (by omega) q3' (by omega)) HSub.behind ?_; rintro _ _ ⟨rfl, rfl⟩; (try simp only [ap4]); refine xp (n_add rfl rfl rfl kI (by omega)) rfl ?_; refine xa rfl rfl ?_; refine WO_nil (sq_n (hK26 _ _ ?_)); refine W_seq fun K27 hK27 => ?_; refine W_seq fun K28 hK28 => ?_
                have q4 := rbits_le (distExtra d) (s := ⟨a3, f3⟩) q3'; have m4 := rbits_mono B (distExtra d) ⟨a3, f3⟩; rcases hw : rbits B (distExtra d) ⟨a3, f3⟩ with ⟨x4, a4, f4⟩
                rw [hw] at q4 m4 hx4; simp only [hw] at he
                simp only at q4 m4 hx4
                rcases f4 with _ | _
                · skip
                  refine W_region ?_; refine xm rfl rfl ?_; refine xn rfl rfl ?_; refine xp (v_fa (q := 2) rfl underlying58 rfl rfl sizeOf4 rfl) rfl ?_; refine xv (ld rfl rfl isAgg4) rfl ?_; refine xm rfl rfl ?_; refine xm rfl rfl ?_; refine xm rfl rfl ?_; refine xp (v_len rfl underlying22 rfl) rfl ?_; refine xp (n_gt rfl rfl rfl) rfl ?_; refine xp (v_pf rfl rfl rfl) rfl ?_; refine WO_nil (sq_n (hK28 _ _ ?_))
                  refine W_cond rfl (fun hc6 => ?_) (fun hc6 => ?_)
                  · replace hc6 := of_decide_eq_true hc6; rw [if_pos (.inr hc6)] at he; refine W_seq fun K29 hK29 => ?_; refine W.drop (.pre (.cons .here (.skip (.skip .all)))) ?_; refine W_region ?_; refine xm rfl rfl ?_; refine xn rfl rfl ?_; refine xp (v_fa (q := 2) rfl underlying58 rfl rfl sizeOf4 rfl) rfl ?_; refine wst rfl rfl rfl sizeOf4 rfl rfl rfl ?_; refine WO_nil (sq_n (hK29 _ _ ?_))
                    refine W_seq fun K30 hK30 => ?_; refine W_region ?_; refine xm rfl rfl ?_; refine xa rfl rfl ?_; refine WO_nil (sq_n (hK30 _ _ ?_)); refine W_ret (sq_r (bl_r (sq_r (bl_r (sq_r (ret_of (v := _) rfl ?_)))))); rw [he]; exact ⟨_, _, _, rfl, hO, rfl⟩
                  · replace hc6 := of_decide_eq_false hc6; rw [if_neg (by simp; omega)] at he; refine W_skip (sq_n (hK27 _ _ ?_)); refine W_seq fun K31 hK31 => ?_; refine W_region ?_; refine xm rfl rfl ?_; refine xm rfl rfl ?_; refine WO_nil (sq_n (hK31 _ _ ?_)); refine W_block ?_
                    refine W_loop (fun m E H => ∃ j po co Ho, j ≤ lenBase y + x2 ∧ m = lenBase y + x2 - j ∧ OwnV bV 5 po co (cpy (distBase d + x4) j out) Ho ∧ Sub E [(0, .pointer (some ⟨rb, 0, none⟩)), (1, .slice po (cpy (distBase d + x4) j out).length co), (9, .map (some b1)), (11, .map (some b2)), (18, iV (distBase d + x4)), (114, iV (lenBase y + x2)), (115, iV j)] ∧ H = Ho ++ (rb, rdO (.slice p B.length cap) a4 false) :: (b2, mapO (ents L2 L2.length)) :: (b1, mapO (ents L1 L1.length)) :: D) (m := _) (⟨0, po, co, Ho, by omega, rfl, hO, ⟨rfl, rfl, rfl, rfl, rfl, rfl, rfl, trivial⟩, rfl⟩) ?_
                    rintro _ E H ⟨j, po, co, Ho, hj, rfl, hO2, hE, rfl⟩; refine W.env hE ?_; have hcl := cpy_length (distBase d + x4) j out; refine W_seq fun K32 hK32 => ?_; refine W_region ?_; refine xp (n_lt rfl rfl rfl) rfl ?_; refine WO_nil (sq_n (hK32 _ _ ?_)); refine W_seq fun K33 hK33 => ?_; refine W_cond rfl (fun hc7 => ?_) (fun hc7 => ?_)
                    · replace hc7 := of_decide_eq_true hc7; refine W_skip (sq_n (hK33 _ _ ?_)); refine W_seq fun K34 hK34 => ?_; refine W_block ?_; have hne : cpy (distBase d + x4) j out ≠ [] := by intro e; rw [e] at hcl; simp only [List.length_nil] at hcl; omega
                      obtain ⟨b3, off, c, ty, fz, r, rfl, hat, hc⟩ := hO2.dat hne; have hlt : (cpy (distBase d + x4) j out).length - (distBase d + x4) < (cpy (distBase d + x4) j out).length := by omega
                      have hg : (cpy (distBase d + x4) j out).getD ((cpy (distBase d + x4) j out).length - (distBase d + x4)) 0 = (cpy (distBase d + x4) j out)[(cpy (distBase d + x4) j out).length - (distBase d + x4)] := by simp [hlt]
                      refine W_region ?_; refine xm rfl rfl ?_; refine xm rfl rfl ?_; refine xm rfl rfl ?_; refine xp (v_len rfl underlying22 rfl) rfl ?_; refine xm rfl rfl ?_; refine xp (n_sub rfl rfl rfl kI (by omega) (by omega)) rfl ?_; refine xp (v_ixs rfl underlying22 sizeOf5 rfl rfl (by omega)) rfl ?_; refine xv (v_ld rfl rfl isAgg5 (ha := hat.appl) (hc _ hlt)) rfl ?_
                      refine wapp1 (bytes := 1) underlying22 sizeOf5 typeInfo5 rfl zeroValue5 rfl hO2 rfl (fun _ => rfl) (by omega) (by decide) rfl rfl rfl rfl rfl rfl rfl rfl rfl (fun _ => rfl) (fun _ => rfl) ?_; rw [← hg]; intro vb p3 cap3 Ho3 hO3; refine xa rfl rfl ?_; refine WO_nil (bl_n (sq_n (hK34 _ _ ?_))); refine W_region ?_; refine xp (n_add rfl rfl rfl kI (by omega)) rfl ?_; refine xm rfl rfl ?_
                      refine WO_nil (sq_n (?_)); exact ⟨_, by omega, j + 1, _, _, _, by omega, rfl, by rw [cpy_succ]; exact hO3, ⟨rfl, by rw [cpy_succ]; rfl, rfl, rfl, rfl, rfl, rfl, trivial⟩, rfl⟩
                    · replace hc7 := of_decide_eq_false hc7; obtain rfl : j = lenBase y + x2 := by omega
                      refine W_exit (sq_x (sq_x (bl_x (bl_n (sq_n (?_)))))); first
                      | exact ⟨m, by omega, m, _, _, _, _, _, rfl, he, q1, (by simp only [List.length_append, List.length_cons, List.length_nil]; omega), (by simp only; omega), hO3, ⟨rfl, rfl, rfl, rfl, trivial⟩, rfl⟩
                      | exact ⟨m, by omega, m, _, ⟨a4, false⟩, _, _, _, rfl, he, q4, (by rw [cpy_length]; simp only; omega), (by simp only; omega), hO2, ⟨rfl, rfl, rfl, rfl, trivial⟩, rfl⟩
                · skip
                  refine W_region ?_; refine xm rfl rfl ?_; refine xn rfl rfl ?_; refine xp (v_fa (q := 2) rfl underlying58 rfl rfl sizeOf4 rfl) rfl ?_; refine xv (ld rfl rfl isAgg4) rfl ?_; refine xm rfl rfl ?_; refine xno rfl ?_; refine xno rfl ?_; refine xno rfl ?_; refine xno rfl ?_; refine xp (v_pt rfl rfl rfl) rfl ?_; refine WO_nil (sq_n (hK28 _ _ ?_)); refine W_cond_t rfl ?_; refine W_seq fun K35 hK35 => ?_
                  refine W.drop (.pre (.cons .here (.skip (.skip .all)))) ?_; refine W_region ?_; refine xm rfl rfl ?_; refine xn rfl rfl ?_; refine xp (v_fa (q := 2) rfl underlying58 rfl rfl sizeOf4 rfl) rfl ?_; refine wst rfl rfl rfl sizeOf4 rfl rfl rfl ?_; refine WO_nil (sq_n (hK35 _ _ ?_)); refine W_seq fun K36 hK36 => ?_; refine W_region ?_; refine xm rfl rfl ?_; refine xa rfl rfl ?_
                  refine WO_nil (sq_n (hK36 _ _ ?_)); refine W_ret (sq_r (bl_r (sq_r (bl_r (sq_r (ret_of (v := _) rfl ?_)))))); rw [he, if_pos (.inl rfl)]; exact ⟨_, _, _, rfl, hO, rfl⟩
      · skip
        refine W_region ?_; refine xm rfl rfl ?_; refine xn rfl rfl ?_; refine xp (v_fa (q := 2) rfl underlying58 rfl rfl sizeOf4 rfl) rfl ?_; refine xv (ld rfl rfl isAgg4) rfl ?_; refine xm rfl rfl ?_; refine xno rfl ?_; refine xno rfl ?_; refine xp (v_pt rfl rfl rfl) rfl ?_; refine xa rfl rfl ?_; refine WO_nil (sq_n (hK11 _ _ ?_)); refine W_cond_t rfl ?_; refine W_seq fun K37 hK37 => ?_
        refine W.drop (.pre (.cons .here (.skip (.skip .all)))) ?_; refine W_region ?_; refine xm rfl rfl ?_; refine xa rfl rfl ?_; refine WO_nil (sq_n (hK37 _ _ ?_)); refine W_ret (bl_r (sq_r (bl_r (sq_r (bl_r (sq_r (ret_of (v := _) rfl ?_))))))); rw [he, if_pos (.inl rfl)]; exact ⟨_, _, _, rfl, hO, rfl⟩
    · skip
      refine W_region ?_; refine xm rfl rfl ?_; refine xn rfl rfl ?_; refine xp (v_fa (q := 2) rfl underlying58 rfl rfl sizeOf4 rfl) rfl ?_; refine xv (ld rfl rfl isAgg4) rfl ?_; refine xp (v_not rfl rfl rfl) rfl ?_; refine WO_nil (sq_n (hK8 _ _ ?_)); refine W_cond_f rfl ?_; refine W_exit (sq_x (sq_x (bl_x (sq_n (hK6 _ _ ?_))))); refine W.keep [1] rfl ?_; refine W_seq fun K38 hK38 => ?_
      refine W.drop (.pre (.cons .here (.skip (.skip .all)))) ?_; refine W_region ?_; refine xm rfl rfl ?_; refine xa rfl rfl ?_; refine WO_nil (sq_n (hK38 _ _ ?_)); refine W_ret (ret_of (v := _) rfl ?_); rw [he]; exact ⟨_, _, _, rfl, hO, rfl⟩
end
end Go.Proofs.YtpbahgddoamhgaaGreatDoor
namespace Go.Proofs.YtpbahgddoamhgaaGreatDoor
open Go.Proofs.Tryz
open Go Sx Pu
set_option maxRecDepth 10000

section
variable {p : Option Addr} {cap rb : Nat} {L B : List Nat} {D : Hl}
theorem order_at (i : Nat) (h : i < 19) : (orderL.map iV)[i]? = some (iV (orderL.getD i 0)) ∧ orderL.getD i 0 < 19 := by
  have : ∀ i, i < 19 → (orderL.map iV)[i]? = some (iV (orderL.getD i 0)) ∧ orderL.getD i 0 < 19 := by
    intro i h; have : i = 0 ∨ i = 1 ∨ i = 2 ∨ i = 3 ∨ i = 4 ∨ i = 5 ∨ i = 6 ∨ i = 7 ∨ i = 8 ∨ i = 9 ∨ i = 10 ∨ i = 11 ∨ i = 12 ∨ i = 13 ∨ i = 14 ∨ i = 15 ∨ i = 16 ∨ i = 17 ∨ i = 18 := by omega
    rcases this with rfl | rfl | rfl | rfl | rfl | rfl | rfl | rfl | rfl | rfl | rfl | rfl | rfl | rfl | rfl | rfl | rfl | rfl | rfl <;> exact ⟨rfl, by decide⟩
  exact this i h

theorem dynamic_spec (s : RS) (hd : Dat p B D) (hB : ∀ x ∈ B, x < 256) (hl : B.length < 2 ^ 35) (hs : s.at_ ≤ 8 * B.length) :
    CallsL Tryz.prog 28 #[.pointer (some ⟨rb, 0, none⟩)] ((rb, rdO (.slice p B.length cap) s.at_ s.fail) :: D) fun v H' =>
      ∃ G p1 c1 p2 c2, v = .tuple #[.slice p1 (rdyn B s).lits.length c1, .slice p2 (rdyn B s).dists.length c2] ∧ DatI p1 (rdyn B s).lits G ∧ DatI p2 (rdyn B s).dists G ∧ H' = (rb, rdO (.slice p B.length cap) (rdyn B s).s.at_ (rdyn B s).s.fail) :: (G ++ D) := by
  have a1 := rbits_le 5 hs; have a2 := rbits_le 5 a1; have a3 := rbits_le 4 a2; have c1 := rbits_lt B 5 s; have c2 := rbits_lt B 5 (rbits B 5 s).2; have c3 := rbits_lt B 4 (rbits B 5 (rbits B 5 s).2).2; refine CallsL_of func28 rfl ntmps28 rfl ?_; try dsimp only [initE, Nat.zero_add]
  refine W_seq fun K1 hK1 => ?_; refine W_region ?_; refine xa rfl rfl ?_; refine xa rfl rfl ?_; refine WO_nil (sq_n (hK1 _ _ ?_)); refine W_seq fun K2 hK2 => ?_; refine W_region ?_; refine xm rfl rfl ?_; refine wc (e_c rfl rfl rfl call24) rfl rfl rfl (bits_spec (cap := cap) 5 s hd hB (by omega) hs (by omega)) HSub.all ?_; rintro _ _ ⟨rfl, rfl⟩; (try simp only [ap4]); refine xp (n_add rfl rfl rfl kI (by omega)) rfl ?_
  refine xm rfl rfl ?_; refine wc (e_c rfl rfl rfl call24) rfl rfl rfl (bits_spec (cap := cap) 5 (rbits B 5 s).2 hd hB (by omega) a1 (by omega)) HSub.all ?_; rintro _ _ ⟨rfl, rfl⟩; (try simp only [ap4]); refine xp (n_add rfl rfl rfl kI (by omega)) rfl ?_; refine xm rfl rfl ?_
  refine wc (e_c rfl rfl rfl call24) rfl rfl rfl (bits_spec (cap := cap) 4 (rbits B 5 (rbits B 5 s).2).2 hd hB (by omega) a2 (by omega)) HSub.all ?_; rintro _ _ ⟨rfl, rfl⟩; (try simp only [ap4]); refine xp (n_add rfl rfl rfl kI (by omega)) rfl ?_; refine xa rfl rfl ?_; refine xa rfl rfl ?_; refine xa rfl rfl ?_; refine WO_nil (sq_n (hK2 _ _ ?_)); refine W.keep [0,2,3,4,5,6] rfl ?_; refine W_seq fun K3 hK3 => ?_
  refine W_seq fun K4 hK4 => ?_; have he : rdyn B s = rdyn2 B ((rbits B 5 s).1 + 257) ((rbits B 5 (rbits B 5 s).2).1 + 1) ((rbits B 4 (rbits B 5 (rbits B 5 s).2).2).1 + 4) (rbits B 4 (rbits B 5 (rbits B 5 s).2).2).2 := rfl; generalize rbits B 4 (rbits B 5 (rbits B 5 s).2).2 = g3 at *; generalize rbits B 5 (rbits B 5 s).2 = g2 at *; generalize rbits B 5 s = g1 at *; obtain ⟨x3, s3⟩ := g3; simp only at a3 c3 he
  have hnl : g1.1 + 257 ≤ 288 := by omega
  have hnd : g2.1 + 1 ≤ 32 := by omega
  have hnc : x3 + 4 ≤ 19 := by omega
  generalize g1.1 + 257 = nl at *; generalize g2.1 + 1 = nd at *; generalize x3 + 4 = nc at *; rw [rdyn2] at he; by_cases h1 : 286 < nl
  · skip
    refine W_region ?_; refine xm rfl rfl ?_; refine xp (v_gt rfl rfl rfl (dT (by omega))) rfl ?_; refine xm rfl rfl ?_; refine xno rfl ?_; refine xno rfl ?_; refine xp (v_pt rfl rfl rfl) rfl ?_; refine WO_nil (sq_n (hK4 _ _ ?_)); refine W.keep [0,2,3,4,5,6,30] rfl ?_; refine W_cond_t rfl ?_; refine W_seq fun K5 hK5 => ?_; refine W_region ?_; refine xm rfl rfl ?_; refine xn rfl rfl ?_
    refine xp (v_fa (q := 2) rfl underlying58 rfl rfl sizeOf4 rfl) rfl ?_; refine wst rfl rfl rfl sizeOf4 rfl rfl rfl ?_; refine WO_nil (sq_n (hK5 _ _ ?_)); refine W.keep [0,2,3,4,5,6] rfl ?_; refine W_seq fun K6 hK6 => ?_; refine W_region ?_; refine xa rfl rfl ?_; refine xa rfl rfl ?_; refine WO_nil (sq_n (hK6 _ _ ?_)); refine W_ret (sq_r (ret_of (v := _) rfl ?_)); rw [he, if_pos (.inl h1)]
    exact ⟨[], none, 0, none, 0, rfl, DatV.nil, DatV.nil, rfl⟩
  · skip
    refine W_region ?_; refine xm rfl rfl ?_; refine xp (v_gt rfl rfl rfl (dF (by omega))) rfl ?_; refine xm rfl rfl ?_; refine xm rfl rfl ?_; refine xp (n_gt rfl rfl rfl) rfl ?_; refine xp (v_pf rfl rfl rfl) rfl ?_; refine WO_nil (sq_n (hK4 _ _ ?_)); refine W.keep [0,2,3,4,5,6,30] rfl ?_; refine W_cond rfl (fun hc0 => ?_) (fun hc0 => ?_)
    · replace hc0 := of_decide_eq_true hc0; rw [if_pos (.inr hc0)] at he; refine W_seq fun K7 hK7 => ?_; refine W_region ?_; refine xm rfl rfl ?_; refine xn rfl rfl ?_; refine xp (v_fa (q := 2) rfl underlying58 rfl rfl sizeOf4 rfl) rfl ?_; refine wst rfl rfl rfl sizeOf4 rfl rfl rfl ?_; refine WO_nil (sq_n (hK7 _ _ ?_)); refine W.keep [0,2,3,4,5,6] rfl ?_; refine W_seq fun K8 hK8 => ?_; refine W_region ?_
      refine xa rfl rfl ?_; refine xa rfl rfl ?_; refine WO_nil (sq_n (hK8 _ _ ?_)); refine W_ret (sq_r (ret_of (v := _) rfl ?_)); rw [he]; first
      | exact ⟨[], none, 0, none, 0, rfl, DatV.nil, DatV.nil, rfl⟩
      | (refine ⟨Hs, pmv pa ca 0 1, ca - 0, pmv pa ca nl 1, ca - nl, ?_, ?_, ?_, rfl⟩
         · rw [show (List.take nl all).length = nl - 0 by simp; omega, show (List.drop nl all).length = all.length - nl by simp]
         · have := hO.dat.sub (l := 0) (u := nl) (m := ca) (by omega) (by omega); rwa [List.drop_zero] at this
         · have := hO.dat.sub (l := nl) (u := all.length) (m := ca) (by omega) (by omega); rwa [List.take_length] at this)
    · replace hc0 := of_decide_eq_false hc0; rw [if_neg (by omega)] at he; refine W_skip (sq_n (hK3 _ _ ?_)); refine W_seq fun K9 hK9 => ?_; refine W_region ?_; refine ws (v_mk (bytes := 8) rfl underlying23 sizeOf3 typeInfo3 rfl zeroValue3 rfl rfl (by omega) (by omega) rfl rfl) rfl rfl rfl ?_; rintro _ _ ⟨b1, rfl, rfl, _⟩; refine xa rfl rfl ?_; refine WO_nil (sq_n (hK9 _ _ ?_)); refine W_seq fun K10 hK10 => ?_
      refine W_seq fun K11 hK11 => ?_; refine W_region ?_; refine wc (e_c rfl rfl rfl call43) rfl rfl rfl (order_spec) (.skip (.skip .all)) ?_; rintro _ _ ⟨bo, rfl, rfl⟩; (try simp only [ap4]); refine xm rfl rfl ?_; refine xp (v_slp rfl underlying23 sizeOf3 rfl .none (.some rfl) .none (by omega) (by omega) (by omega) (by decide)) rfl ?_; refine xp (v_len rfl underlying23 rfl) rfl ?_; refine xm rfl rfl ?_
      refine WO_nil (sq_n (hK11 _ _ ?_)); refine W.keep [0,2,3,4,5,7,37,38,39] rfl ?_; refine W_block ?_
      refine W_loop (fun m E H => ∃ i, i ≤ nc ∧ m = nc - i ∧ Sub E [(0, .pointer (some ⟨rb, 0, none⟩)), (4, iV nl), (5, iV nd), (7, .slice (some ⟨b1, 0, none⟩) 19 19), (37, .slice (some ⟨bo, 0, none⟩) nc 19), (38, iV nc), (39, iV i)] ∧ H = (b1, .cells (List.toArray ((rclen B s3 i).1.map iV)) 3 (0, 0)) :: (rb, rdO (.slice p B.length cap) (rclen B s3 i).2.at_ (rclen B s3 i).2.fail) :: (bo, .cells (List.toArray (orderL.map iV)) 3 (0, 0)) :: D) (m := _) (⟨0, by omega, rfl, ⟨rfl, rfl, rfl, rfl, rfl, rfl, rfl, trivial⟩, rfl⟩) ?_
      rintro m E H ⟨i, hi, rfl, hE, rfl⟩; refine W.env hE ?_; have hq := rclen_le (s := s3) a3 i; have hql := rclen_length B s3 i; refine W_seq fun K12 hK12 => ?_; refine W_region ?_; refine xp (n_lt rfl rfl rfl) rfl ?_; refine WO_nil (sq_n (hK12 _ _ ?_)); refine W_seq fun K13 hK13 => ?_; refine W_cond rfl (fun hc1 => ?_) (fun hc1 => ?_)
      · replace hc1 := of_decide_eq_true hc1; refine W_skip (sq_n (hK13 _ _ ?_)); refine W_seq fun K14 hK14 => ?_; refine W_block ?_; refine W_seq fun K15 hK15 => ?_; obtain ⟨ho1, ho2⟩ := order_at i (by omega); refine W_region ?_; refine xp (v_ixs rfl underlying23 sizeOf3 rfl rfl (by omega)) rfl ?_; refine xv (v_ld rfl rfl isAgg3 ho1) rfl ?_; refine xa rfl rfl ?_; refine WO_nil (sq_n (hK15 _ _ ?_)); refine W_region ?_
        refine xm rfl rfl ?_; refine xm rfl rfl ?_; refine xm rfl rfl ?_; refine wc (e_c rfl rfl rfl call24) rfl rfl rfl (bits_spec (cap := cap) 3 (rclen B s3 i).2 (hd.cons _) hB (by omega) hq (by omega)) (.skip .all) ?_; rintro _ _ ⟨rfl, rfl⟩; (try simp only [ap4]); refine xp (v_ixs rfl underlying23 sizeOf3 rfl rfl (by omega)) rfl ?_
        refine wst' rfl rfl rfl sizeOf3 rfl (List.map_set (f := iV)).symm (by simp only [List.length_map]; omega) rfl rfl ?_; refine WO_nil (bl_n (sq_n (hK14 _ _ ?_))); refine W_region ?_; refine xp (n_add rfl rfl rfl kI (by omega)) rfl ?_; refine xm rfl rfl ?_; refine WO_nil (sq_n (?_)); exact ⟨_, by omega, i + 1, by omega, rfl, ⟨rfl, rfl, rfl, rfl, rfl, rfl, rfl, trivial⟩, rfl⟩
      · replace hc1 := of_decide_eq_false hc1; obtain rfl : i = nc := by omega
        refine W_exit (sq_x (sq_x (bl_x (sq_n (hK10 _ _ ?_))))); refine W.keep [0,4,5,7] rfl ?_; refine W_seq fun K16 hK16 => ?_; have hmem := rclen_mem (B := B) (s := s3) i; rw [rdyn3] at he; generalize rclen B s3 i = q at *; refine W_region ?_; refine xm rfl rfl ?_
        refine wc (e_c rfl rfl rfl call39) rfl rfl rfl (newCode_m (L := q.1) (cap := 19) hql datV_row (by omega) (fun x hx => by have := hmem x hx; omega)) (.cons .here (.skip .all)) ?_; rintro _ _ ⟨b2, rfl, rfl⟩; (try simp only [ap4]); refine xm rfl rfl ?_; refine xp (v_ex rfl rfl rfl) rfl ?_; refine xp (v_ex rfl rfl rfl) rfl ?_; refine xa rfl rfl ?_; refine xa rfl rfl ?_; refine WO_nil (sq_n (hK16 _ _ ?_))
        refine W.keep [0,4,5,10,11] rfl ?_; refine W_seq_mid (fun E H => ∃ s0 : RS, s0.at_ = q.2.at_ ∧ rdyn B s = rdyn4 nl nd (rall B (ents q.1 19) (nl + nd) (nl + nd + 1) [] s0) ∧ Sub E [(0, .pointer (some ⟨rb, 0, none⟩)), (4, iV nl), (5, iV nd), (10, .map (some b2))] ∧ ∃ z zo, H = (rb, rdO (.slice p B.length cap) s0.at_ s0.fail) :: (b2, mapO (ents q.1 19)) :: z :: zo :: D) ?_ ?_
        · skip
          refine W_seq fun K18 hK18 => ?_; rcases hok : okCode q.1 with _ | _
          · obtain ⟨s0, hs0, he0⟩ : ∃ s0 : RS, s0.at_ = q.2.at_ ∧ rdyn B s = rdyn4 nl nd (rall B (ents q.1 19) (nl + nd) (nl + nd + 1) [] s0) ∧ s0.fail = true := ⟨q.2.bad, rfl, by rw [he, if_neg (by simp [hok])], rfl⟩; refine W_region ?_; refine xm rfl rfl ?_; refine xp (v_not rfl rfl rfl) rfl ?_; refine WO_nil (sq_n (hK18 _ _ ?_)); refine W_cond_t rfl ?_; refine W_region ?_; refine xm rfl rfl ?_; refine xn rfl rfl ?_
            refine xp (v_fa (q := 2) rfl underlying58 rfl rfl sizeOf4 rfl) rfl ?_; refine wst rfl rfl rfl sizeOf4 rfl rfl rfl ?_; refine WO_nil (sq_n (?_)); exact ⟨s0, hs0, he0.1, ⟨rfl, rfl, rfl, rfl, trivial⟩, _, _, by rw [hs0, he0.2]⟩
          · obtain ⟨s0, hs0, he0⟩ : ∃ s0 : RS, s0.at_ = q.2.at_ ∧ rdyn B s = rdyn4 nl nd (rall B (ents q.1 19) (nl + nd) (nl + nd + 1) [] s0) ∧ s0.fail = q.2.fail := ⟨q.2, rfl, by rw [he, if_pos hok], rfl⟩; refine W_region ?_; refine xm rfl rfl ?_; refine xp (v_not rfl rfl rfl) rfl ?_; refine WO_nil (sq_n (hK18 _ _ ?_)); refine W_cond_f rfl ?_; refine W_skip (sq_n (?_))
            exact ⟨s0, hs0, he0.1, ⟨rfl, rfl, rfl, rfl, trivial⟩, _, _, by rw [hs0, he0.2]⟩
        · rintro E H ⟨s0, hs0, he0, hE, z, zo, rfl⟩; refine W.less hE (.cons .here (.cons .here (.skip (.skip .all)))) ?_; refine W_seq fun K19 hK19 => ?_; refine W_region ?_; refine xa rfl rfl ?_; refine WO_nil (sq_n (hK19 _ _ ?_)); refine W_seq fun K20 hK20 => ?_; refine W_block ?_
          refine W_loop (fun m E H => ∃ k all s' pa ca Hs, m = k ∧ rdyn B s = rdyn4 nl nd (rall B (ents q.1 19) (nl + nd) k all s') ∧ s'.at_ ≤ 8 * B.length ∧ all.length ≤ 1000 ∧ (s'.fail = false → nl + nd < all.length + k) ∧ OwnV iV 3 pa ca all Hs ∧ Sub E [(0, .pointer (some ⟨rb, 0, none⟩)), (4, iV nl), (5, iV nd), (10, .map (some b2)), (12, .slice pa all.length ca)] ∧ H = Hs ++ (rb, rdO (.slice p B.length cap) s'.at_ s'.fail) :: (b2, mapO (ents q.1 19)) :: D) (m := _) (⟨_, [], s0, none, 0, [], rfl, he0, by omega, by simp, by intro _; simp, OwnV.nil, ⟨rfl, rfl, rfl, rfl, rfl, trivial⟩, rfl⟩) ?_
          rintro m E H ⟨k, all, s1, pa, ca, Hs, rfl, he, hs1, hal, hk, hO, hE, rfl⟩; refine W.env hE ?_; obtain ⟨at_, fail⟩ := s1; refine W_seq fun K21 hK21 => ?_; refine W_seq fun K22 hK22 => ?_; rcases fail with _ | _
          · skip
            refine W_region ?_; refine xm rfl rfl ?_; refine xn rfl rfl ?_; refine xp (v_fa (q := 2) rfl underlying58 rfl rfl sizeOf4 rfl) rfl ?_; refine xv (ld rfl rfl isAgg4) rfl ?_; refine xp (v_not rfl rfl rfl) rfl ?_; refine xm rfl rfl ?_; refine xm rfl rfl ?_; refine xp (v_len rfl underlying23 rfl) rfl ?_; refine xm rfl rfl ?_; refine xm rfl rfl ?_; refine xp (n_add rfl rfl rfl kI (by omega)) rfl ?_
            refine xp (n_lt rfl rfl rfl) rfl ?_; refine xp (v_pt rfl rfl rfl) rfl ?_; refine WO_nil (sq_n (hK22 _ _ ?_)); refine W_cond rfl (fun hc3 => ?_) (fun hc3 => ?_)
            · replace hc3 := of_decide_eq_true hc3; have hk := hk rfl; have hk0 : m = m - 1 + 1 := by omega
              rw [hk0] at he hk ⊢; generalize m - 1 = m at *; rw [rall, if_neg (by simp; omega)] at he; refine W_skip (sq_n (hK21 _ _ ?_)); refine W_block ?_; refine W_seq fun K23 hK23 => ?_; refine W_region ?_; refine xm rfl rfl ?_; refine xm rfl rfl ?_; refine wc (e_c rfl rfl rfl call40) rfl rfl rfl (symbol_spec (cap := cap) ⟨at_, false⟩ (.here) (hd.cons _) hB (by omega) hs1) HSub.behind ?_; rintro _ _ ⟨rfl, rfl⟩
              (try simp only [ap4]); refine xa rfl rfl ?_; refine WO_nil (sq_n (hK23 _ _ ?_)); refine W_seq fun K24 hK24 => ?_; refine W_seq fun K25 hK25 => ?_; have q1 := sym_le (l := ents q.1 19) hs1; have hy19 := sym_lt (B := B) (L := q.1) (j := 19) (by omega) ⟨at_, false⟩; rcases hy : sym B (ents q.1 19) ⟨at_, false⟩ with ⟨y, a1, f1⟩
              rw [hy] at q1 hy19; simp only [hy] at he
              simp only at q1 hy19 hs1 hk
              refine W_region ?_; refine xm rfl rfl ?_; refine xp (n_lt rfl rfl rfl) rfl ?_; refine WO_nil (sq_n (hK25 _ _ ?_)); refine W_cond rfl (fun hc4 => ?_) (fun hc4 => ?_)
              · replace hc4 := of_decide_eq_true hc4; rw [if_pos hc4] at he; refine W_seq fun K26 hK26 => ?_; refine W_region ?_; refine xm rfl rfl ?_; refine xm rfl rfl ?_; refine wapp1 (bytes := 8) underlying23 sizeOf3 typeInfo3 rfl zeroValue3 rfl hO rfl (fun _ => rfl) (by omega) (by decide) rfl rfl rfl rfl rfl rfl rfl rfl rfl (fun _ => rfl) (fun _ => rfl) ?_; intro vb p3 cap3 Ho3 hO3; refine xa rfl rfl ?_
                refine WO_nil (sq_n (hK26 _ _ ?_)); refine W_exit (sq_x (bl_x (sq_n (?_)))); first
                | exact ⟨m, by omega, m, _, _, _, _, _, rfl, he, q1, (by simp only [List.length_append, List.length_cons, List.length_nil]; omega), (by intro _; simp only [List.length_append, List.length_cons, List.length_nil]; omega), hO3, ⟨rfl, rfl, rfl, rfl, rfl, trivial⟩, rfl⟩
                | exact ⟨m, by omega, m, _, _, _, _, _, rfl, he2, hat2, (by simp only [List.length_append, List.length_replicate]; omega), (by intro hf; have := hmany hf; simp only [List.length_append, List.length_replicate]; omega), hO2, ⟨rfl, rfl, rfl, rfl, rfl, trivial⟩, rfl⟩
              · replace hc4 := of_decide_eq_false hc4; rw [if_neg hc4] at he; refine W_skip (sq_n (hK24 _ _ ?_)); refine W_seq fun K27 hK27 => ?_; refine W_region ?_; refine xa rfl rfl ?_; refine xa rfl rfl ?_; refine WO_nil (sq_n (hK27 _ _ ?_))
                refine W_seq_mid (fun E H => ∃ what many s2, rdyn B s = rdyn4 nl nd (rall B (ents q.1 19) (nl + nd) m (all ++ List.replicate many what) s2) ∧ s2.at_ ≤ 8 * B.length ∧ many ≤ 150 ∧ (s2.fail = false → 1 ≤ many) ∧ Sub E [(0, .pointer (some ⟨rb, 0, none⟩)), (4, iV nl), (5, iV nd), (10, .map (some b2)), (12, .slice pa all.length ca), (14, iV what), (15, iV many)] ∧ H = Hs ++ (rb, rdO (.slice p B.length cap) s2.at_ s2.fail) :: (b2, mapO (ents q.1 19)) :: D) ?_ ?_
                · skip
                  refine W_block ?_; refine W_seq fun K29 hK29 => ?_; by_cases h16 : y = 16
                  · skip
                    refine W_region ?_; refine xm rfl rfl ?_; refine xp (v_eq rfl rfl rfl (dT (by omega))) rfl ?_; refine xm rfl rfl ?_; refine xm rfl rfl ?_; refine xp (v_len rfl underlying23 rfl) rfl ?_; refine xp (n_eq rfl rfl rfl) rfl ?_; refine xp (v_pt rfl rfl rfl) rfl ?_; refine xa rfl rfl ?_; refine WO_nil (sq_n (hK29 _ _ ?_)); refine W_cond rfl (fun hc5 => ?_) (fun hc5 => ?_)
                    · replace hc5 := of_decide_eq_true hc5; rw [if_pos ⟨h16, hc5⟩] at he; refine W_region ?_; refine xm rfl rfl ?_; refine xn rfl rfl ?_; refine xp (v_fa (q := 2) rfl underlying58 rfl rfl sizeOf4 rfl) rfl ?_; refine wst rfl rfl rfl sizeOf4 rfl rfl rfl ?_; refine WO_nil (bl_n (sq_n (?_))); first
                      | exact ⟨0, 0, RS.bad ⟨a1, f1⟩, by rw [he]; simp, q1, by omega, (by intro h; simp at h), ⟨rfl, rfl, rfl, rfl, rfl, rfl, rfl, trivial⟩, rfl⟩
                      | exact ⟨_, _, _, he, rbits_le _ q1, by omega, (by intro _; omega), ⟨rfl, rfl, rfl, rfl, rfl, rfl, rfl, trivial⟩, rfl⟩
                    · replace hc5 := of_decide_eq_false hc5; rw [if_neg (fun h => hc5 h.2), if_pos h16] at he; refine W_seq fun K30 hK30 => ?_; refine W_region ?_; refine xm rfl rfl ?_; refine xp (v_eq rfl rfl rfl (dT (by omega))) rfl ?_; refine xa rfl rfl ?_; refine WO_nil (sq_n (hK30 _ _ ?_)); refine W_cond_t rfl ?_; have hx := rbits_lt B 2 ⟨a1, f1⟩; have hne : all ≠ [] := by intro e; subst e; exact hc5 rfl
                      obtain ⟨b3, off, c, ty, fz, r, rfl, hat, hc⟩ := hO.dat hne; have hlt : all.length - 1 < all.length := by omega
                      have hg : all.getD (all.length - 1) 0 = all[all.length - 1] := by simp [hlt]
                      rw [hg] at he; refine W_draw mixed ?_; refine ap 0 rfl (by kernel_rfl) (v_mv rfl rfl) rfl rfl rfl ?_; refine ap 1 rfl (by kernel_rfl) (v_mv rfl rfl) rfl rfl rfl ?_; refine ap 2 rfl (by kernel_rfl) (v_len rfl underlying23 rfl) rfl rfl rfl ?_; refine ap 3 rfl (by kernel_rfl) (n_sub rfl rfl rfl kI (by omega) (by omega)) rfl rfl rfl ?_
                      refine ap 4 rfl (by kernel_rfl) (v_ixs rfl underlying23 sizeOf3 rfl rfl (by omega)) rfl rfl rfl ?_; refine ap 6 rfl (by kernel_rfl) (v_mv rfl rfl) rfl rfl rfl ?_; refine WA_two (k := 5) (j := 7) rfl rfl (by kernel_rfl) ?_ ?_
                      · skip
                        refine xv (v_ld rfl rfl isAgg3 (ha := hat.appl) (hc _ hlt)) rfl ?_; refine WO_nil (sq_n ?_); refine WA_one (k := 7) rfl (by kernel_rfl) ?_; refine wc (e_c rfl rfl rfl call24) rfl rfl rfl (bits_spec (cap := cap) 2 ⟨a1, f1⟩ (hd.cons _) hB (by omega) q1 (by omega)) HSub.behind ?_; rintro _ _ ⟨rfl, rfl⟩; (try simp only [ap4]); refine WO_nil (sq_n ?_)
                        refine WA_k (fuel := 0) [8,9,10] rfl (by kernel_rfl) ?_; refine yp rfl (n_add rfl rfl rfl kI (by omega)) rfl ?_; refine yp rfl (v_as rfl rfl) rfl ?_; refine yp rfl (v_as rfl rfl) rfl ?_; refine WK_nil ?_; refine WA_nil (by kernel_rfl) (bl_n (sq_n (?_))); first
                        | exact ⟨0, 0, RS.bad ⟨a1, f1⟩, by rw [he]; simp, q1, by omega, (by intro h; simp at h), ⟨rfl, rfl, rfl, rfl, rfl, rfl, rfl, trivial⟩, rfl⟩
                        | exact ⟨_, _, _, he, rbits_le _ q1, by omega, (by intro _; omega), ⟨rfl, rfl, rfl, rfl, rfl, rfl, rfl, trivial⟩, rfl⟩
                      · skip
                        refine wc (e_c rfl rfl rfl call24) rfl rfl rfl (bits_spec (cap := cap) 2 ⟨a1, f1⟩ (hd.cons _) hB (by omega) q1 (by omega)) HSub.behind ?_; rintro _ _ ⟨rfl, rfl⟩; (try simp only [ap4]); refine WO_nil (sq_n ?_); refine WA_k (fuel := 0) [5,8,9,10] rfl (by kernel_rfl) ?_; refine yv rfl (v_ld rfl rfl isAgg3 (ha := hat.appl) (hc _ hlt)) rfl ?_; refine yp rfl (n_add rfl rfl rfl kI (by omega)) rfl ?_
                        refine yp rfl (v_as rfl rfl) rfl ?_; refine yp rfl (v_as rfl rfl) rfl ?_; refine WK_nil ?_; refine WA_nil (by kernel_rfl) (bl_n (sq_n (?_))); first
                        | exact ⟨0, 0, RS.bad ⟨a1, f1⟩, by rw [he]; simp, q1, by omega, (by intro h; simp at h), ⟨rfl, rfl, rfl, rfl, rfl, rfl, rfl, trivial⟩, rfl⟩
                        | exact ⟨_, _, _, he, rbits_le _ q1, by omega, (by intro _; omega), ⟨rfl, rfl, rfl, rfl, rfl, rfl, rfl, trivial⟩, rfl⟩
                  · skip
                    refine W_region ?_; refine xm rfl rfl ?_; refine xp (v_eq rfl rfl rfl (dF (by omega))) rfl ?_; refine xm rfl rfl ?_; refine xno rfl ?_; refine xno rfl ?_; refine xno rfl ?_; refine xp (v_pf rfl rfl rfl) rfl ?_; refine xa rfl rfl ?_; refine WO_nil (sq_n (hK29 _ _ ?_)); refine W_cond_f rfl ?_; refine W_seq fun K31 hK31 => ?_; rw [if_neg (fun h => h16 h.1), if_neg h16] at he; refine W_region ?_
                    refine xm rfl rfl ?_; refine xp (v_eq rfl rfl rfl (dF (by omega))) rfl ?_; refine xa rfl rfl ?_; refine WO_nil (sq_n (hK31 _ _ ?_)); refine W_cond_f rfl ?_; refine W_seq fun K32 hK32 => ?_; refine W_region ?_; refine xm rfl rfl ?_; refine xp (n_eq rfl rfl rfl) rfl ?_; refine xa rfl rfl ?_; refine WO_nil (sq_n (hK32 _ _ ?_)); refine W_cond rfl (fun hc7 => ?_) (fun hc7 => ?_)
                    · replace hc7 := of_decide_eq_true hc7; rw [if_pos hc7] at he; have hx := rbits_lt B 3 ⟨a1, f1⟩; refine W_region ?_; refine xm rfl rfl ?_; refine wc (e_c rfl rfl rfl call24) rfl rfl rfl (bits_spec (cap := cap) 3 ⟨a1, f1⟩ (hd.cons _) hB (by omega) q1 (by omega)) HSub.behind ?_; rintro _ _ ⟨rfl, rfl⟩; (try simp only [ap4]); refine xp (n_add rfl rfl rfl kI (by omega)) rfl ?_; refine xa rfl rfl ?_
                      refine WO_nil (bl_n (sq_n (?_))); first
                      | exact ⟨0, 0, RS.bad ⟨a1, f1⟩, by rw [he]; simp, q1, by omega, (by intro h; simp at h), ⟨rfl, rfl, rfl, rfl, rfl, rfl, rfl, trivial⟩, rfl⟩
                      | exact ⟨_, _, _, he, rbits_le _ q1, by omega, (by intro _; omega), ⟨rfl, rfl, rfl, rfl, rfl, rfl, rfl, trivial⟩, rfl⟩
                    · replace hc7 := of_decide_eq_false hc7; rw [if_neg hc7] at he; have hx := rbits_lt B 7 ⟨a1, f1⟩; refine W_region ?_; refine xm rfl rfl ?_; refine wc (e_c rfl rfl rfl call24) rfl rfl rfl (bits_spec (cap := cap) 7 ⟨a1, f1⟩ (hd.cons _) hB (by omega) q1 (by omega)) HSub.behind ?_; rintro _ _ ⟨rfl, rfl⟩; (try simp only [ap4]); refine xp (n_add rfl rfl rfl kI (by omega)) rfl ?_; refine xa rfl rfl ?_
                      refine WO_nil (bl_n (sq_n (?_))); first
                      | exact ⟨0, 0, RS.bad ⟨a1, f1⟩, by rw [he]; simp, q1, by omega, (by intro h; simp at h), ⟨rfl, rfl, rfl, rfl, rfl, rfl, rfl, trivial⟩, rfl⟩
                      | exact ⟨_, _, _, he, rbits_le _ q1, by omega, (by intro _; omega), ⟨rfl, rfl, rfl, rfl, rfl, rfl, rfl, trivial⟩, rfl⟩
                · rintro E H ⟨what, many, s2, he2, hat2, hml, hmany, hE, rfl⟩; refine W.env hE ?_; refine W_seq fun K33 hK33 => ?_; refine W_region ?_; refine xm rfl rfl ?_; refine xm rfl rfl ?_; refine WO_nil (sq_n (hK33 _ _ ?_)); refine W_block ?_
                  refine W_loop (fun m E H => ∃ j pa ca Hs, j ≤ many ∧ m = many - j ∧ OwnV iV 3 pa ca (all ++ List.replicate j what) Hs ∧ Sub E [(0, .pointer (some ⟨rb, 0, none⟩)), (4, iV nl), (5, iV nd), (10, .map (some b2)), (12, .slice pa (all ++ List.replicate j what).length ca), (14, iV what), (113, iV many), (114, iV j)] ∧ H = Hs ++ (rb, rdO (.slice p B.length cap) s2.at_ s2.fail) :: (b2, mapO (ents q.1 19)) :: D) (m := _) (⟨0, pa, ca, Hs, by omega, rfl, by simpa using hO, ⟨rfl, rfl, rfl, rfl, (by rw [List.replicate_zero, List.append_nil]; rfl), rfl, rfl, rfl, trivial⟩, rfl⟩) ?_
                  rintro _ E H ⟨j, pa, ca, Hs, hj, rfl, hO2, hE, rfl⟩; refine W.env hE ?_; have hrl : (all ++ List.replicate j what).length = all.length + j := by simp
                  refine W_seq fun K34 hK34 => ?_; refine W_region ?_; refine xp (n_lt rfl rfl rfl) rfl ?_; refine WO_nil (sq_n (hK34 _ _ ?_)); refine W_seq fun K35 hK35 => ?_; refine W_cond rfl (fun hc8 => ?_) (fun hc8 => ?_)
                  · replace hc8 := of_decide_eq_true hc8; refine W_skip (sq_n (hK35 _ _ ?_)); refine W_seq fun K36 hK36 => ?_; refine W_block ?_; refine W_region ?_; refine xm rfl rfl ?_; refine xm rfl rfl ?_; refine wapp1 (bytes := 8) underlying23 sizeOf3 typeInfo3 rfl zeroValue3 rfl hO2 rfl (fun _ => rfl) (by omega) (by decide) rfl rfl rfl rfl rfl rfl rfl rfl rfl (fun _ => rfl) (fun _ => rfl) ?_
                    intro vb p3 cap3 Ho3 hO3; refine xa rfl rfl ?_; refine WO_nil (bl_n (sq_n (hK36 _ _ ?_))); refine W_region ?_; refine xp (n_add rfl rfl rfl kI (by omega)) rfl ?_; refine xm rfl rfl ?_; refine WO_nil (sq_n (?_)); have e9 : all ++ List.replicate j what ++ [what] = all ++ List.replicate (j + 1) what := by rw [List.append_assoc, ← List.replicate_succ']
                    rw [e9] at hO3 ⊢; exact ⟨_, by omega, j + 1, _, _, _, by omega, rfl, hO3, ⟨rfl, rfl, rfl, rfl, rfl, rfl, rfl, rfl, trivial⟩, rfl⟩
                  · replace hc8 := of_decide_eq_false hc8; obtain rfl : j = many := by omega
                    refine W_exit (sq_x (sq_x (bl_x (bl_n (sq_n (?_)))))); first
                    | exact ⟨m, by omega, m, _, _, _, _, _, rfl, he, q1, (by simp only [List.length_append, List.length_cons, List.length_nil]; omega), (by intro _; simp only [List.length_append, List.length_cons, List.length_nil]; omega), hO3, ⟨rfl, rfl, rfl, rfl, rfl, trivial⟩, rfl⟩
                    | exact ⟨m, by omega, m, _, _, _, _, _, rfl, he2, hat2, (by simp only [List.length_append, List.length_replicate]; omega), (by intro hf; have := hmany hf; simp only [List.length_append, List.length_replicate]; omega), hO2, ⟨rfl, rfl, rfl, rfl, rfl, trivial⟩, rfl⟩
            · replace hc3 := of_decide_eq_false hc3; rw [rall_end (.inr (by omega)), rdyn4] at he; refine W_exit (sq_x (sq_x (bl_x (sq_n (hK20 _ _ ?_))))); refine W.keep [0,4,5,12] rfl ?_; refine W_seq fun K37 hK37 => ?_; refine W_seq fun K38 hK38 => ?_; refine W_region ?_; refine xm rfl rfl ?_; refine xn rfl rfl ?_; refine xp (v_fa (q := 2) rfl underlying58 rfl rfl sizeOf4 rfl) rfl ?_
              refine xv (ld rfl rfl isAgg4) rfl ?_; refine xm rfl rfl ?_; refine xm rfl rfl ?_; refine xp (v_len rfl underlying23 rfl) rfl ?_; refine xm rfl rfl ?_; refine xm rfl rfl ?_; refine xp (n_add rfl rfl rfl kI (by omega)) rfl ?_; refine xp (n_ne rfl rfl rfl) rfl ?_; refine xp (v_pf rfl rfl rfl) rfl ?_; refine WO_nil (sq_n (hK38 _ _ ?_)); refine W.keep [0,4,12,132] rfl ?_
              refine W_cond rfl (fun hc9 => ?_) (fun hc9 => ?_)
              · replace hc9 := of_decide_eq_true hc9; rw [if_pos (.inr hc9)] at he; refine W.drop (HSub.app (.cons .here (.skip .all))) ?_; refine W_seq fun K39 hK39 => ?_; refine W_region ?_; refine xm rfl rfl ?_; refine xn rfl rfl ?_; refine xp (v_fa (q := 2) rfl underlying58 rfl rfl sizeOf4 rfl) rfl ?_; refine wst rfl rfl rfl sizeOf4 rfl rfl rfl ?_; refine WO_nil (sq_n (hK39 _ _ ?_)); refine W.keep [4,12] rfl ?_
                refine W_seq fun K40 hK40 => ?_; refine W_region ?_; refine xa rfl rfl ?_; refine xa rfl rfl ?_; refine WO_nil (sq_n (hK40 _ _ ?_)); refine W_ret (sq_r (ret_of (v := _) rfl ?_)); rw [he]; first
                | exact ⟨[], none, 0, none, 0, rfl, DatV.nil, DatV.nil, rfl⟩
                | (refine ⟨Hs, pmv pa ca 0 1, ca - 0, pmv pa ca nl 1, ca - nl, ?_, ?_, ?_, rfl⟩
                   · rw [show (List.take nl all).length = nl - 0 by simp; omega, show (List.drop nl all).length = all.length - nl by simp]
                   · have := hO.dat.sub (l := 0) (u := nl) (m := ca) (by omega) (by omega); rwa [List.drop_zero] at this
                   · have := hO.dat.sub (l := nl) (u := all.length) (m := ca) (by omega) (by omega); rwa [List.take_length] at this)
              · replace hc9 := of_decide_eq_false hc9; rw [if_neg (by simp; omega)] at he; refine W_skip (sq_n (hK37 _ _ ?_)); refine W_seq fun K41 hK41 => ?_; have hcl := hO.capl; refine W.drop (.cons (AtR.app .here) (.pre (.skip .all))) ?_; refine W_draw mixed ?_; refine WA_k (fuel := 0) [0,1,2,3,4,5,6,7] rfl (by kernel_rfl) ?_; refine ym rfl rfl rfl ?_; refine ym rfl rfl rfl ?_
                refine yp rfl (v_slp rfl underlying23 sizeOf3 rfl .none (.some rfl) .none (by omega) (by omega) (by omega) (by decide)) rfl ?_; refine ym rfl rfl rfl ?_; refine ym rfl rfl rfl ?_; refine yp rfl (v_slp rfl underlying23 sizeOf3 rfl .none .none (.some rfl) (by omega) (by omega) (by omega) (by decide)) rfl ?_; refine yp rfl (v_as rfl rfl) rfl ?_; refine yp rfl (v_as rfl rfl) rfl ?_; refine WK_nil ?_
                refine WA_nil (by kernel_rfl) (sq_n (hK41 _ _ ?_)); refine W.keep [2,3] rfl ?_; refine W_ret (ret_of (v := _) rfl ?_); rw [he]; first
                | exact ⟨[], none, 0, none, 0, rfl, DatV.nil, DatV.nil, rfl⟩
                | (refine ⟨Hs, pmv pa ca 0 1, ca - 0, pmv pa ca nl 1, ca - nl, ?_, ?_, ?_, rfl⟩
                   · rw [show (List.take nl all).length = nl - 0 by simp; omega, show (List.drop nl all).length = all.length - nl by simp]
                   · have := hO.dat.sub (l := 0) (u := nl) (m := ca) (by omega) (by omega); rwa [List.drop_zero] at this
                   · have := hO.dat.sub (l := nl) (u := all.length) (m := ca) (by omega) (by omega); rwa [List.take_length] at this)
          · skip
            refine W_region ?_; refine xm rfl rfl ?_; refine xn rfl rfl ?_; refine xp (v_fa (q := 2) rfl underlying58 rfl rfl sizeOf4 rfl) rfl ?_; refine xv (ld rfl rfl isAgg4) rfl ?_; refine xp (v_not rfl rfl rfl) rfl ?_; refine xm rfl rfl ?_; refine xno rfl ?_; refine xno rfl ?_; refine xno rfl ?_; refine xno rfl ?_; refine xno rfl ?_; refine xno rfl ?_; refine xp (v_pf rfl rfl rfl) rfl ?_
            refine WO_nil (sq_n (hK22 _ _ ?_)); refine W_cond_f rfl ?_; refine W_exit (sq_x (sq_x (bl_x (sq_n (hK20 _ _ ?_))))); refine W.keep [0,4,5,12] rfl ?_; refine W_seq fun K42 hK42 => ?_; refine W_seq fun K43 hK43 => ?_; rw [rall_end (.inl rfl), rdyn4, if_pos (.inl rfl)] at he; refine W.drop (HSub.app (.cons .here (.skip .all))) ?_; refine W_region ?_; refine xm rfl rfl ?_; refine xn rfl rfl ?_
            refine xp (v_fa (q := 2) rfl underlying58 rfl rfl sizeOf4 rfl) rfl ?_; refine xv (ld rfl rfl isAgg4) rfl ?_; refine xm rfl rfl ?_; refine xno rfl ?_; refine xno rfl ?_; refine xno rfl ?_; refine xno rfl ?_; refine xno rfl ?_; refine xno rfl ?_; refine xp (v_pt rfl rfl rfl) rfl ?_; refine WO_nil (sq_n (hK43 _ _ ?_)); refine W.keep [0,4,12,132] rfl ?_; refine W_cond_t rfl ?_; refine W_seq fun K44 hK44 => ?_
            refine W_region ?_; refine xm rfl rfl ?_; refine xn rfl rfl ?_; refine xp (v_fa (q := 2) rfl underlying58 rfl rfl sizeOf4 rfl) rfl ?_; refine wst rfl rfl rfl sizeOf4 rfl rfl rfl ?_; refine WO_nil (sq_n (hK44 _ _ ?_)); refine W.keep [4,12] rfl ?_; refine W_seq fun K45 hK45 => ?_; refine W_region ?_; refine xa rfl rfl ?_; refine xa rfl rfl ?_; refine WO_nil (sq_n (hK45 _ _ ?_))
            refine W_ret (sq_r (ret_of (v := _) rfl ?_)); rw [he]; first
            | exact ⟨[], none, 0, none, 0, rfl, DatV.nil, DatV.nil, rfl⟩
            | (refine ⟨Hs, pmv pa ca 0 1, ca - 0, pmv pa ca nl 1, ca - nl, ?_, ?_, ?_, rfl⟩
               · rw [show (List.take nl all).length = nl - 0 by simp; omega, show (List.drop nl all).length = all.length - nl by simp]
               · have := hO.dat.sub (l := 0) (u := nl) (m := ca) (by omega) (by omega); rwa [List.drop_zero] at this
               · have := hO.dat.sub (l := nl) (u := all.length) (m := ca) (by omega) (by omega); rwa [List.take_length] at this)
end
end Go.Proofs.YtpbahgddoamhgaaGreatDoor
namespace Go.Proofs.YtpbahgddoamhgaaGreatDoor
open Go.Proofs.Tryz
open Go Sx Pu
set_option maxRecDepth 10000

section
variable {p : Option Addr} {cap rb : Nat} {L B : List Nat} {D : Hl}
def InfR (r : Option (List Nat × Nat)) (v : Value) (G : Hl) : Prop := match r with
  | none => v = .tuple #[.slice none 0 0, .int .i64 0, .bool false]
  | some (out, used) => ∃ p c, v = .tuple #[.slice p out.length c, .int .i64 (used : Nat), .bool true] ∧ Dat p out G

theorem inflate_spec (hcap : B.length ≤ cap) (hd : Dat p B D) (hB : ∀ x ∈ B, x < 256) (hl : B.length < 2 ^ 34) :
    CallsL Tryz.prog 11 #[.slice p B.length cap, .slice none 0 0] D fun v H' => ∃ G, InfR (rinflate B) v G ∧ H' = G ++ D := by
  obtain ⟨R, hR⟩ : ∃ R, R = rinf B (8 * B.length + 2) [] 0 ⟨0, false⟩ := ⟨_, rfl⟩; have hri : rinflate B = (if R.2.fail = true then none else some (R.1, (ralign R.2).at_ / 8)) := by unfold rinflate; rw [hR]
  refine CallsL_of func11 rfl ntmps11 rfl ?_; try dsimp only [initE, Nat.zero_add]
  refine W_seq fun K1 hK1 => ?_; refine W_region ?_; refine xa rfl rfl ?_; refine xa rfl rfl ?_; refine xa rfl rfl ?_; refine WO_nil (sq_n (hK1 _ _ ?_)); refine W_seq fun K2 hK2 => ?_; refine W_region ?_; refine xm rfl rfl ?_; refine xp (v_any (.agg #[.slice p B.length cap, .int .i64 0, .bool false]) rfl rfl (by intro w; kernel_rfl)) rfl ?_; refine wf (v_bxa rfl rfl) rfl rfl rfl ?_; intro rb _; refine xa rfl rfl ?_
  refine WO_nil (sq_n (hK2 _ _ ?_)); refine W.keep [1,4,5,6,7] rfl ?_; refine W_seq fun K3 hK3 => ?_; refine W_seq fun K4 hK4 => ?_; refine W_region ?_; refine xm rfl rfl ?_; refine xp (v_len rfl underlying22 rfl) rfl ?_; refine xp (v_gt rfl rfl rfl (dF (by omega))) rfl ?_; refine WO_nil (sq_n (hK4 _ _ ?_)); refine W_cond_f rfl ?_; refine W_skip (sq_n (hK3 _ _ ?_)); refine W.keep [1,4,5,6,7] rfl ?_
  refine W_seq fun K5 hK5 => ?_; refine W_region ?_; refine ws (v_bs #[] 5 0 rfl rfl (by intro w; kernel_rfl)) rfl rfl rfl ?_; rintro _ _ ⟨bo, rfl, rfl, _⟩; refine xm rfl rfl ?_; refine wapp (bytes := 1) rfl underlying22 underlying22 sizeOf5 typeInfo5 rfl zeroValue5 rfl rfl rfl (OwnV.empty (f := bV) (b := bo)) rfl (M := []) DatV.nil rfl (fun _ => rfl) (by simp) (by simp) rfl rfl rfl ?_; intro po co Ho hO
  refine xa rfl rfl ?_; refine WO_nil (sq_n (hK5 _ _ ?_)); refine W.keep [1,4,5,6,7,8] rfl ?_; refine W_seq fun K6 hK6 => ?_; refine W_seq fun K7 hK7 => ?_; refine W_region ?_; refine xa rfl rfl ?_; refine WO_nil (sq_n (hK7 _ _ ?_)); refine W_block ?_
  refine W_loop (fun m E H => ∃ k out last s' po co Ho, m = k ∧ R = rinf B k out last s' ∧ s'.at_ ≤ 8 * B.length ∧ out.length ≤ 258 * s'.at_ ∧ last < 2 ∧ (s'.fail = false → 8 * B.length + 1 < k + s'.at_) ∧ OwnV bV 5 po co out Ho ∧ Sub E [(1, .slice none 0 0), (7, .pointer (some ⟨rb, 0, none⟩)), (8, .slice po out.length co), (9, iV last)] ∧ H = Ho ++ (rb, rdO (.slice p B.length cap) s'.at_ s'.fail) :: D) (m := _) (⟨_, [], 0, ⟨0, false⟩, po, co, Ho, rfl, hR, Nat.zero_le _, by simp, by omega, by intro _; simp, hO, ⟨rfl, rfl, rfl, rfl, trivial⟩, rfl⟩) ?_
  rintro m E H ⟨k, out, last, s, po, co, Ho, rfl, he, hs, hol, hla, hk, hO, hE, rfl⟩; refine W.env hE ?_; obtain ⟨at_, fail⟩ := s; refine W_seq fun K8 hK8 => ?_; refine W_seq fun K9 hK9 => ?_; by_cases hl0 : last = 0
  · subst hl0; rcases fail with _ | _
    · have hk := hk rfl; have hk0 : m = m - 1 + 1 := by omega
      rw [hk0] at he hk ⊢; generalize m - 1 = m at *; rw [rinf, if_neg (by simp)] at he; refine W_region ?_; refine xm rfl rfl ?_; refine xp (v_eq rfl rfl rfl (dT (by omega))) rfl ?_; refine xm rfl rfl ?_; refine xm rfl rfl ?_; refine xn rfl rfl ?_; refine xp (v_fa (q := 2) rfl underlying58 rfl rfl sizeOf4 rfl) rfl ?_; refine xv (ld rfl rfl isAgg4) rfl ?_; refine xp (v_not rfl rfl rfl) rfl ?_
      refine xp (v_pt rfl rfl rfl) rfl ?_; refine WO_nil (sq_n (hK9 _ _ ?_)); refine W_cond_t rfl ?_; refine W_skip (sq_n (hK8 _ _ ?_)); refine W_block ?_; refine W_seq fun K10 hK10 => ?_; refine W_region ?_; refine xm rfl rfl ?_; refine wc (e_c rfl rfl rfl call23) rfl rfl rfl (bit_s (cap := cap) ⟨at_, false⟩ hd hB (by omega) hs) HSub.behind ?_; rintro _ _ ⟨rfl, rfl⟩; (try simp only [ap4]); refine xa rfl rfl ?_
      refine WO_nil (sq_n (hK10 _ _ ?_)); refine W_seq fun K11 hK11 => ?_; have g1 := rbit_le (B := B) (s := ⟨at_, false⟩) hs; have g2 := @rbit_ok B ⟨at_, false⟩; have g3 := rbit_mono B ⟨at_, false⟩; have hbl := rbit_lt B ⟨at_, false⟩; generalize rbit B ⟨at_, false⟩ = q at *; simp only at g2 g3
      refine W_region ?_; refine xm rfl rfl ?_; refine wc (e_c rfl rfl rfl call24) rfl rfl rfl (bits_spec (cap := cap) 2 q.2 hd hB (by omega) g1 (by omega)) HSub.behind ?_; rintro _ _ ⟨rfl, rfl⟩; (try simp only [ap4]); refine xa rfl rfl ?_; refine WO_nil (sq_n (hK11 _ _ ?_)); refine W_seq fun K12 hK12 => ?_; have g4 := rbits_le (B := B) 2 g1; have g5 := @rbits_ok B 2 q.2; have g6 := rbits_mono B 2 q.2
      rcases hz : rbits B 2 q.2 with ⟨kind, s2⟩
      rw [hz] at g4 g5 g6 he; simp only at g4 g5 g6 he hs hol hk
      obtain ⟨f1, f2, f3⟩ := rone_facts (B := B) (out := out) kind g4 (by omega)
      have hok : (rone B kind out s2).2.fail = false → at_ < (rone B kind out s2).2.at_ := fun h => by
        have := g5 (rone_ok h); have := (g2 this.1).2.1; omega
      refine W_region ?_; refine xm rfl rfl ?_; refine WO_nil (sq_n (hK12 _ _ ?_)); refine W_block ?_; refine W_seq fun K13 hK13 => ?_; refine W_region ?_; refine xp (n_eq rfl rfl rfl) rfl ?_; refine xa rfl rfl ?_; refine WO_nil (sq_n (hK13 _ _ ?_)); refine W_cond rfl (fun hc2 => ?_) (fun hc2 => ?_)
      · replace hc2 := of_decide_eq_true hc2; subst hc2; refine W_region ?_; refine xm rfl rfl ?_; refine xm rfl rfl ?_; refine wc (e_c rfl rfl rfl call25) rfl rfl rfl (stored_spec (cap := cap) s2 hcap hd hB (by omega) g4 hO (by omega)) HSub.all ?_; rintro _ _ ⟨p3, c3, Ho3, rfl, hO3, rfl⟩; (try simp only [ap4]); refine xa rfl rfl ?_; refine WO_nil (bl_n (bl_n (sq_n (?_))))
        exact ⟨m, by omega, m, _, _, _, _, _, _, rfl, he, f1, f3, hbl, (by intro hf; have := hok hf; omega), hO3, ⟨rfl, rfl, rfl, rfl, trivial⟩, (by first | rfl | simp only [hfd])⟩
      · replace hc2 := of_decide_eq_false hc2; refine W_seq fun K14 hK14 => ?_; refine W_region ?_; refine xp (n_eq rfl rfl rfl) rfl ?_; refine xa rfl rfl ?_; refine WO_nil (sq_n (hK14 _ _ ?_)); refine W_cond rfl (fun hc3 => ?_) (fun hc3 => ?_)
        · replace hc3 := of_decide_eq_true hc3; subst hc3; refine W_seq fun K15 hK15 => ?_; refine W_region ?_; refine wc (e_c rfl rfl rfl call26) rfl rfl rfl (fixed_spec) HSub.nil ?_; rintro _ G ⟨p1, c1, p2, c2, rfl, hf1, hf2⟩; (try simp only [ap4]); refine xm rfl rfl ?_; refine xp (v_ex rfl rfl rfl) rfl ?_; refine xp (v_ex rfl rfl rfl) rfl ?_; refine xa rfl rfl ?_; refine xa rfl rfl ?_
          refine WO_nil (sq_n (hK15 _ _ ?_)); refine W_region ?_; refine xm rfl rfl ?_; refine xm rfl rfl ?_; refine xm rfl rfl ?_; refine xm rfl rfl ?_; refine wc (e_c rfl rfl rfl call27) rfl rfl rfl (block_spec (cap := cap) (D := D ++ G) s2 (hd.appl _) hB (by omega) g4 hO (by omega) (L1 := fixL) (c1 := c1) (hf1.app _) (by decide) (by decide) (L2 := fixD) (c2 := c2) (hf2.app _) (by decide) (by decide)) HSub.all ?_
          rintro _ _ ⟨p3, c3, Ho3, rfl, hO3, rfl⟩; (try simp only [ap4]); refine WO_drop (.pre (.cons .here .front)) ?_; refine xa rfl rfl ?_; refine WO_nil (bl_n (bl_n (sq_n (?_)))); exact ⟨m, by omega, m, _, _, _, _, _, _, rfl, he, f1, f3, hbl, (by intro hf; have := hok hf; omega), hO3, ⟨rfl, rfl, rfl, rfl, trivial⟩, (by first | rfl | simp only [hfd])⟩
        · replace hc3 := of_decide_eq_false hc3; refine W_seq fun K16 hK16 => ?_; refine W_region ?_; refine xp (n_eq rfl rfl rfl) rfl ?_; refine xa rfl rfl ?_; refine WO_nil (sq_n (hK16 _ _ ?_)); refine W_cond rfl (fun hc4 => ?_) (fun hc4 => ?_)
          · replace hc4 := of_decide_eq_true hc4; subst hc4; have hr2 : rone B 2 out s2 = if (rdyn B s2).s.fail = true then (out, (rdyn B s2).s) else rblock B (rdyn B s2).lits (rdyn B s2).dists out (rdyn B s2).s := rfl; refine W_seq fun K17 hK17 => ?_; refine W_region ?_; refine xm rfl rfl ?_; refine wc (e_c rfl rfl rfl call28) rfl rfl rfl (dynamic_spec (cap := cap) s2 hd hB (by omega) g4) HSub.behind ?_
            rintro _ _ ⟨G, p1, c1, p2, c2, rfl, hf1, hf2, rfl⟩; (try simp only [ap4]); refine xm rfl rfl ?_; refine xp (v_ex rfl rfl rfl) rfl ?_; refine xp (v_ex rfl rfl rfl) rfl ?_; refine xa rfl rfl ?_; refine xa rfl rfl ?_; refine WO_nil (sq_n (hK17 _ _ ?_)); refine W_seq fun K18 hK18 => ?_; obtain ⟨u1, u2, u3, u4, u5, u6⟩ := rdyn_facts (B := B) (s := s2) g4; rcases hfd : (rdyn B s2).s.fail with _ | _
            · skip
              rw [if_neg (by simp [hfd])] at hr2; refine W_region ?_; refine xm rfl rfl ?_; refine xn rfl rfl ?_; refine xp (v_fa (q := 2) rfl underlying58 rfl rfl sizeOf4 rfl) rfl ?_; refine xv (ld rfl rfl isAgg4) rfl ?_; refine xp (v_not rfl rfl rfl) rfl ?_; refine WO_nil (sq_n (hK18 _ _ ?_)); refine W_cond_t rfl ?_; refine W_region ?_; refine xm rfl rfl ?_; refine xm rfl rfl ?_; refine xm rfl rfl ?_
              refine xm rfl rfl ?_; refine wc (e_c rfl rfl rfl call27) rfl rfl rfl (block_spec (cap := cap) (D := G ++ D) (rdyn B s2).s (hd.app _) hB (by omega) u1 hO (by omega) (c1 := c1) (hf1.appl _) (by omega) u5 (c2 := c2) (hf2.appl _) (by omega) u6) (by rw [hfd]; exact HSub.all) ?_; rintro _ _ ⟨p3, c3, Ho3, rfl, hO3, rfl⟩; (try simp only [ap4]); rw [← hr2] at hO3 ⊢; refine WO_drop (.pre (.cons .here .behind)) ?_
              refine xa rfl rfl ?_; refine WO_nil (bl_n (bl_n (sq_n (?_)))); exact ⟨m, by omega, m, _, _, _, _, _, _, rfl, he, f1, f3, hbl, (by intro hf; have := hok hf; omega), hO3, ⟨rfl, rfl, rfl, rfl, trivial⟩, (by first | rfl | simp only [hfd])⟩
            · skip
              rw [if_pos hfd] at hr2; rw [hr2] at he f1 f2 f3 hok; have hO3 := hO; refine W.drop (.pre (.cons .here .behind)) ?_; skip
              refine W_region ?_; refine xm rfl rfl ?_; refine xn rfl rfl ?_; refine xp (v_fa (q := 2) rfl underlying58 rfl rfl sizeOf4 rfl) rfl ?_; refine xv (ld rfl rfl isAgg4) rfl ?_; refine xp (v_not rfl rfl rfl) rfl ?_; refine WO_nil (sq_n (hK18 _ _ ?_)); refine W_cond_f rfl ?_; refine W_skip (bl_n (bl_n (sq_n (?_))))
              exact ⟨m, by omega, m, _, _, _, _, _, _, rfl, he, f1, f3, hbl, (by intro hf; have := hok hf; omega), hO3, ⟨rfl, rfl, rfl, rfl, trivial⟩, (by first | rfl | simp only [hfd])⟩
          · replace hc4 := of_decide_eq_false hc4; have hr2 : rone B kind out s2 = (out, s2.bad) := by unfold rone; rw [if_neg hc2, if_neg hc3, if_neg hc4]
            rw [hr2] at he f1 f2 f3 hok; have hO3 := hO; refine W_region ?_; refine xm rfl rfl ?_; refine xn rfl rfl ?_; refine xp (v_fa (q := 2) rfl underlying58 rfl rfl sizeOf4 rfl) rfl ?_; refine wst rfl rfl rfl sizeOf4 rfl rfl rfl ?_; refine WO_nil (bl_n (bl_n (sq_n (?_))))
            exact ⟨m, by omega, m, _, _, _, _, _, _, rfl, he, f1, f3, hbl, (by intro hf; have := hok hf; omega), hO3, ⟨rfl, rfl, rfl, rfl, trivial⟩, (by first | rfl | simp only [hfd])⟩
    · rw [rinf_end (.inr rfl)] at he; refine W_region ?_; refine xm rfl rfl ?_; refine xp (v_eq rfl rfl rfl (dT (by omega))) rfl ?_; refine xm rfl rfl ?_; refine xm rfl rfl ?_; refine xn rfl rfl ?_; refine xp (v_fa (q := 2) rfl underlying58 rfl rfl sizeOf4 rfl) rfl ?_; refine xv (ld rfl rfl isAgg4) rfl ?_; refine xp (v_not rfl rfl rfl) rfl ?_; refine xp (v_pt rfl rfl rfl) rfl ?_; refine WO_nil (sq_n (hK9 _ _ ?_))
      refine W_cond_f rfl ?_; refine W_exit (sq_x (sq_x (bl_x (sq_n (hK6 _ _ ?_))))); refine W.keep [1,7,8] rfl ?_; refine W_seq fun K19 hK19 => ?_; refine W_seq fun K20 hK20 => ?_; refine W_region ?_; refine xm rfl rfl ?_; refine xn rfl rfl ?_; refine xp (v_fa (q := 2) rfl underlying58 rfl rfl sizeOf4 rfl) rfl ?_; refine xv (ld rfl rfl isAgg4) rfl ?_; refine WO_nil (sq_n (hK20 _ _ ?_))
      refine W.keep [1,7,8,82] rfl ?_; refine W_cond_t rfl ?_; refine W_seq fun K21 hK21 => ?_; refine W_region ?_; refine xa rfl rfl ?_; refine xa rfl rfl ?_; refine xa rfl rfl ?_; refine WO_nil (sq_n (hK21 _ _ ?_)); refine W_ret (sq_r (ret_of (v := _) rfl ?_)); refine ⟨Ho ++ [(rb, rdO (.slice p B.length cap) at_ true)], ?_, by simp⟩; rw [hri, he]; exact rfl
  · rw [rinf_end (.inl hl0)] at he; refine W_region ?_; refine xm rfl rfl ?_; refine xp (v_eq rfl rfl rfl (dF (by omega))) rfl ?_; refine xm rfl rfl ?_; refine xno rfl ?_; refine xno rfl ?_; refine xno rfl ?_; refine xno rfl ?_; refine xno rfl ?_; refine xp (v_pf rfl rfl rfl) rfl ?_; refine WO_nil (sq_n (hK9 _ _ ?_)); refine W_cond_f rfl ?_; refine W_exit (sq_x (sq_x (bl_x (sq_n (hK6 _ _ ?_)))))
    refine W.keep [1,7,8] rfl ?_; refine W_seq fun K22 hK22 => ?_; refine W_seq fun K23 hK23 => ?_; rcases fail with _ | _
    · skip
      refine W_region ?_; refine xm rfl rfl ?_; refine xn rfl rfl ?_; refine xp (v_fa (q := 2) rfl underlying58 rfl rfl sizeOf4 rfl) rfl ?_; refine xv (ld rfl rfl isAgg4) rfl ?_; refine WO_nil (sq_n (hK23 _ _ ?_)); refine W.keep [1,7,8,82] rfl ?_; refine W_cond_f rfl ?_; refine W_skip (sq_n (hK22 _ _ ?_)); refine W_seq fun K24 hK24 => ?_; refine W_region ?_; refine xm rfl rfl ?_
      refine wc (e_c rfl rfl rfl call29) rfl rfl rfl (align_spec (D := D) (by omega)) HSub.behind ?_; rintro _ _ rfl; (try simp only [ap4]); refine WO_nil (sq_n (hK24 _ _ ?_)); refine W.keep [1,7,8] rfl ?_; refine W_seq fun K25 hK25 => ?_; have hcl := hO.capl; have hra := ralign_le (B := B) (s := ⟨at_, false⟩) hs; refine W_draw mixed ?_; refine WA_k (fuel := 0) [0,1,2,3,4,5,6,7,8,9,10,11] rfl (by kernel_rfl) ?_
      refine ym rfl rfl rfl ?_; refine ym rfl rfl rfl ?_; refine yp rfl (v_len rfl underlying22 rfl) rfl ?_; refine yp rfl (v_slp rfl underlying22 sizeOf5 rfl .none .none (.some rfl) (by omega) (by omega) (by omega) (by decide)) rfl ?_; refine ym rfl rfl rfl ?_; refine yp rfl (v_nil rfl rfl) rfl ?_; refine yp rfl (v_fa (q := 1) rfl underlying58 rfl rfl sizeOf3 rfl) rfl ?_; refine yv rfl (ld rfl rfl isAgg3) rfl ?_
      refine yp rfl (n_quo rfl rfl rfl kI (by omega) (by omega)) rfl ?_; refine yp rfl (v_as rfl rfl) rfl ?_; refine yp rfl (v_as rfl rfl) rfl ?_; refine yp rfl (v_as rfl rfl) rfl ?_; refine WK_nil ?_; refine WA_nil (by kernel_rfl) (sq_n (hK25 _ _ ?_)); refine W.keep [4,5,6] rfl ?_; refine W_ret (ret_of (v := _) rfl ?_); refine ⟨Ho ++ [(rb, rdO (.slice p B.length cap) (ralign ⟨at_, false⟩).at_ false)], ?_, by simp⟩
      rw [hri, he]; refine ⟨pmv po co 0 1, co - 0, rfl, ?_⟩; have hcl := hO.capl; have := hO.dat.sub (l := 0) (u := out.length) (m := co) (by omega) (by omega); rw [List.take_length, List.drop_zero] at this; exact this.appl _
    · skip
      refine W_region ?_; refine xm rfl rfl ?_; refine xn rfl rfl ?_; refine xp (v_fa (q := 2) rfl underlying58 rfl rfl sizeOf4 rfl) rfl ?_; refine xv (ld rfl rfl isAgg4) rfl ?_; refine WO_nil (sq_n (hK23 _ _ ?_)); refine W.keep [1,7,8,82] rfl ?_; refine W_cond_t rfl ?_; refine W_seq fun K26 hK26 => ?_; refine W_region ?_; refine xa rfl rfl ?_; refine xa rfl rfl ?_; refine xa rfl rfl ?_
      refine WO_nil (sq_n (hK26 _ _ ?_)); refine W_ret (sq_r (ret_of (v := _) rfl ?_)); refine ⟨Ho ++ [(rb, rdO (.slice p B.length cap) at_ true)], ?_, by simp⟩; rw [hri, he]; exact rfl
end
end Go.Proofs.YtpbahgddoamhgaaGreatDoor
