/- Part 5 of 11 of the proof: the executor, the walks and the plain laws, in build order. -/
import Derived.Test.YtpbahgddoamhgaaGreatDoorQd
namespace Go.Proofs.YtpbahgddoamhgaaGreatDoor
open Go Sx Pu
set_option maxRecDepth 10000

structure Cx where
  p : Option Addr
  cap : Nat
  k : Nat
  fb : Nat
  hb : Nat
  bb : Nat
  cbk : Nat
  rBuf : Value
  S : List Nat
  B : List Nat
  o : Nat
  eof : Addr
  shb : Addr
  uex : Addr
  hdr : Addr
  dic : Addr
  chk : Addr
  D : Hl
structure Cx.Ok (x : Cx) : Prop where
  src : Src x.p x.S x.B x.o x.D
  gd : GD x.D x.eof x.shb x.uex x.hdr x.dic x.chk
  cap : x.S.length ≤ x.cap
structure FSt where
  ro : Int
  b : Value
  nb : Nat
  h1 : HD
  h2 : HD
  wr : Nat
  rd : Nat
  full : Bool
  b0 : Value
  b1 : Value
  b2 : Value
  b3 : Value
  step : Nat
  sst : Nat
  fin : Bool
  err : Value
  tr : Value
  hl : Value
  hd : Value
  cl : Nat
  cd : Nat
  i : Nat
  pr : Value
  Y : List Nat
  X : List Nat
  C : List Nat
  G : Hl
@[reducible] def FSt.c (s : FSt) (x : Cx) : List Value := fc (.iface 42 (.pointer (some ⟨x.k, 0, none⟩))) x.rBuf (.int .i64 s.ro) s.b (uV s.nb) s.h1 s.h2 (.pointer (some ⟨x.bb, 0, none⟩)) (.pointer (some ⟨x.cbk, 0, none⟩)) (winV x.hb) (iV s.wr) (iV s.rd) (.bool s.full) s.b0 s.b1 s.b2 s.b3 (fnV s.step) (iV s.sst) (.bool s.fin) s.err s.tr s.hl s.hd (iV s.cl) (iV s.cd)
@[reducible] def FSt.tail (s : FSt) (x : Cx) : Hl := (x.bb, intsO s.X 148) :: (x.cbk, intsO s.C 149) :: (s.G ++ x.D)
@[reducible] def FSt.H (s : FSt) (x : Cx) : Hl := (x.fb, fO (s.c x)) :: (x.k, srcO (.slice x.p x.S.length x.cap) s.i s.pr) :: (x.hb, winO s.Y) :: s.tail x

def TabAt (x : Cx) (s : FSt) (loc : Value) (min : Nat) (L : List Nat) : Prop :=
  ∃ tb tq ch lv mask tabs, loc = .pointer (some ⟨tb, tq, none⟩) ∧ Huf ch mask tabs L ∧ LK s.G lv tabs ∧ min ≤ 15 ∧ (∀ u, 1 ≤ L.getD u 0 → 1 ≤ min) ∧
    ((tb = x.fb ∧ tq = 5 ∧ s.h1.min = min ∧ s.h1.ch = ch ∧ s.h1.links = lv ∧ s.h1.mask = mask) ∨ (tb = x.fb ∧ tq = 520 ∧ s.h2.min = min ∧ s.h2.ch = ch ∧ s.h2.links = lv ∧ s.h2.mask = mask) ∨
      (tq = 0 ∧ ch.length = 512 ∧ ∃ ty fz r, AtH s.G tb (.cells (List.toArray (hcl [] min ch lv mask [])) ty fz) r))
structure Good (x : Cx) (O Dl T : List Nat) (s : FSt) : Prop where
  win : Win s.Y s.wr s.full O
  rw : s.rd ≤ s.wr
  hX : s.X.length = 316
  hC : s.C.length = 19
  z1 : s.h1.min = 0 → s.h1.ch = List.replicate 512 0
  k1 : s.h1.mask < 2 ^ 32
  z2 : s.h2.min = 0 → s.h2.ch = List.replicate 512 0
  k2 : s.h2.mask < 2 ^ 32
  tr : ∃ tp tc, s.tr = .slice tp T.length tc ∧ T.length ≤ tc ∧ DatV bV tp T [(x.hb, winO s.Y)]
  out : ∃ pend, O = Dl ++ T ++ pend ∧ pend.length = s.wr - s.rd
  ol : O.length ≤ 258 * (8 * x.B.length + 300) ∧ ∀ c ∈ O, c < 256
def finN (s : FSt) : Nat := if s.fin = true then 1 else 0
def PhN (x : Cx) (R : List Nat × RS) (O : List Nat) (P : Nat) (s : FSt) : Prop :=
  s.step = 64 ∧ s.nb ≤ 7 ∧ (s.sst = 1 → s.cl = 0) ∧ O.length ≤ 258 * P ∧ ∃ kf, R = rinf x.B kf O 0 ⟨P, false⟩ ∧ 8 * x.B.length + 1 < kf + P
def Codes (x : Cx) (s : FSt) (L1 L2 : List Nat) (min : Nat) : Prop :=
  TabAt x s s.hl min L1 ∧ (1 ≤ L1.getD 256 0 → min = L1.getD 256 0) ∧ ((s.hd = .pointer none ∧ L2 = fixD) ∨ (∃ m2, TabAt x s s.hd m2 L2 ∧ ∀ u, 1 ≤ L2.getD u 0 → m2 ≤ L2.getD u 0))
def PhH (x : Cx) (R : List Nat × RS) (O : List Nat) (P : Nat) (s : FSt) : Prop :=
  ∃ L1 L2 min kf kb, Codes x s L1 L2 min ∧ s.nb ≤ min + 7 ∧ O.length ≤ 258 * P ∧ (s.sst = 1 → s.cl ≤ 258 ∧ O.length + s.cl ≤ 258 * P) ∧
    R = restH x.B L1 L2 kf kb (finN s) (if s.sst = 1 then cpy s.cd s.cl O else O) P ∧ 8 * x.B.length < kb + P ∧ 8 * x.B.length + 1 < kf + P
def PhC (x : Cx) (R : List Nat × RS) (O : List Nat) (P j : Nat) (s : FSt) : Prop :=
  s.nb = 0 ∧ s.cl ≤ 65535 ∧ O.length ≤ 258 * P ∧ ∃ kf, (j + s.cl ≤ x.B.length → R = rinf x.B kf (O ++ (x.B.drop j).take s.cl) (finN s) ⟨8 * (j + s.cl), false⟩) ∧ (x.B.length < j + s.cl → R.2.fail = true) ∧ 8 * x.B.length + 1 < kf + P
structure At (x : Cx) (O : List Nat) (P j : Nat) (s : FSt) : Prop where
  hi : s.i = x.o + j
  hP : P + s.nb = 8 * j
  hj : j ≤ x.B.length
  hb : s.b = wV (bitsv x.B P s.nb)
  he : s.err = .nilIface
  hw : s.wr < 32768
  ss : s.sst = 0 ∨ s.sst = 1 ∧ 0 < s.cd ∧ s.cd ≤ 32768 ∧ s.cd ≤ O.length
def mu (x : Cx) (P : Nat) (s : FSt) : Nat := 1000 * (8 * x.B.length + 8 - P) + (if s.step = 72 ∧ s.sst = 1 then s.cl else 0) + (if s.step = 77 then 1 else 0)
def Live (x : Cx) (R : List Nat × RS) (O : List Nat) (m : Nat) (s : FSt) : Prop :=
  ∃ P j, At x O P j s ∧ m = mu x P s ∧ (PhN x R O P s ∨ (s.step = 72 ∧ PhH x R O P s) ∨ (s.step = 77 ∧ PhC x R O P j s))
def Done (x : Cx) (R : List Nat × RS) (O : List Nat) (s : FSt) : Prop :=
  s.err = errV x.eof ∧ R.2.fail = false ∧ R.1 = O ∧ s.i = x.o + (ralign R.2).at_ / 8 ∧ (ralign R.2).at_ / 8 ≤ x.B.length ∧ s.rd = s.wr
def Bad (x : Cx) (R : List Nat × RS) (s : FSt) : Prop := ErrK x.uex s.err ∧ R.2.fail = true ∧ s.i ≤ x.S.length
def StepOut (x : Cx) (R : List Nat × RS) (Dl : List Nat) (m : Nat) (H' : Hl) : Prop :=
  ∃ s O T, H' = s.H x ∧ Good x O Dl T s ∧ ((∃ m', m' < m ∧ Live x R O m' s) ∨ Done x R O s ∨ Bad x R s)

theorem fc_hcl1 {r rBuf ro b nb : Value} {h1 h2 : HD} {bits cb hist wr rd full b0 b1 b2 b3 step sst fin err tr hl hd cl cd : Value} :
    fc r rBuf ro b nb h1 h2 bits cb hist wr rd full b0 b1 b2 b3 step sst fin err tr hl hd cl cd = hcl [r, rBuf, ro, b, nb] h1.min h1.ch h1.links h1.mask (h2.cells ++ ftl bits cb hist wr rd full b0 b1 b2 b3 step sst fin err tr hl hd cl cd) := rfl
theorem fc_hcl2 {r rBuf ro b nb : Value} {h1 h2 : HD} {bits cb hist wr rd full b0 b1 b2 b3 step sst fin err tr hl hd cl cd : Value} :
    fc r rBuf ro b nb h1 h2 bits cb hist wr rd full b0 b1 b2 b3 step sst fin err tr hl hd cl cd = hcl ([r, rBuf, ro, b, nb] ++ h1.cells) h2.min h2.ch h2.links h2.mask (ftl bits cb hist wr rd full b0 b1 b2 b3 step sst fin err tr hl hd cl cd) := by
  unfold fc hcl; rw [List.append_assoc]; rfl
theorem hmat_of {H : Hl} {tb q min mask : Nat} {ch : List Nat} {lv : Value} {A Z : List Value} {ty : TypeId} {fz : Nat × Nat} {r : Obj → Hl} (ha : AtH H tb (.cells (List.toArray (hcl A min ch lv mask Z)) ty fz) r) (hA : A.length = q) (hc : ch.length = 512) : HMat H tb q min ch lv mask :=
  ⟨_, ty, fz, r, ha, hcl_min hA, fun i hi => hcl_ch hA hc hi, hcl_links hA hc, hcl_mask hA hc⟩
theorem DatV.win {Y : List Nat} {hb rd wr : Nat} {O Dl pend : List Nat} {full : Bool} (h : Win Y wr full O) (hO : O = Dl ++ pend) (hp : pend.length = wr - rd) (hr : rd ≤ wr) : DatV bV (pmv (some ⟨hb, 0, none⟩) 32768 rd 1) pend [(hb, winO Y)] := fun hne => by
  have hl : 0 < pend.length := by
    rcases Nat.eq_zero_or_pos pend.length with h0 | h0
    · exact absurd (List.length_eq_zero_iff.1 h0) hne
    · exact h0
  have hw := h.le; have hlen := h.len; refine ⟨hb, rd, _, 5, (0, 0), _, pmv_win (by omega), AtH.here, fun i hi => ?_⟩; have hOl : O.length = Dl.length + pend.length := by rw [hO]; simp
  have h1 := h.new (rd + i) (by omega); rw [show O.length - wr + (rd + i) = Dl.length + i by have := h.leO; omega, hO] at h1; rw [List.getD_eq_getElem?_getD (l := Dl ++ pend), List.getElem?_append_right (by omega), Nat.add_sub_cancel_left, List.getElem?_eq_getElem hi] at h1; rw [List.getElem?_map, List.getElem?_eq_getElem (by omega), Option.map_some]
  rw [List.getD_eq_getElem?_getD, List.getElem?_eq_getElem (by omega)] at h1; exact congrArg (fun z => some (bV z)) h1
end Go.Proofs.YtpbahgddoamhgaaGreatDoor
namespace Go.Proofs.YtpbahgddoamhgaaGreatDoor
open Go.Proofs.Tryz
open Go Sx Pu
set_option maxRecDepth 10000

section
variable {x : Cx} {R : List Nat × RS} {O Dl : List Nat} {P j m : Nat}
theorem Src.piece {p : Option Addr} {S B : List Nat} {o : Nat} {D : Hl} (h : Src p S B o D) (j n : Nat) : (S.drop (o + j)).take n = (B.drop j).take n := by
  rw [← h.hB, List.drop_drop]
theorem GD.win {x : Cx} (hx : x.Ok) (a b : Nat × Obj) (c d : Nat × Obj) (G : Hl) : GD (a :: b :: c :: d :: (G ++ x.D)) x.eof x.shb x.uex x.hdr x.dic x.chk := ((((hx.gd.app G).cons _).cons _).cons _).cons _

theorem Src.mem {p : Option Addr} {S B : List Nat} {o : Nat} {D : Hl} (h : Src p S B o D) {c : Nat} (hc : c ∈ B) : c < 256 := by
  rw [← h.hB] at hc; exact h.hS _ (List.mem_of_mem_drop hc)
theorem copyData_spec {s : FSt} (hx : x.Ok) (hg : Good x O Dl [] s) (ha : At x O P j s) (hp : PhC x R O P j s) (hm : 1000 * (8 * x.B.length + 8 - P) + 1 ≤ m) :
    CallsL Tryz.prog 77 #[.pointer (some ⟨x.fb, 0, none⟩)] (s.H x) fun _ H' => StepOut x R Dl m H' := by
  obtain ⟨yro, yb, ynb, yh1, yh2, ywr, yrd, yfull, yb0, yb1, yb2, yb3, ystep, ysst, yfin, yerr, ytr, yhl, yhd, ycl, ycd, yi, ypr, yY, yX, yC, yG⟩ := s; obtain ⟨win, rw_, hX, hC, z1, k1, z2, k2, ⟨tp, tc, htr, _, _⟩, ⟨pend, hO, hpl⟩, ol⟩ := hg; obtain ⟨hi, hP, hj, hb, he, hw, hss⟩ := ha; obtain ⟨hnb, hcl, hol, kf, hR1, hR2, hkf⟩ := hp; dsimp only at *; subst hi hnb he htr; have hlen := hx.src.len; have hwin := win.le
  have hYl := win.len; obtain ⟨n, hn⟩ : ∃ n, n = min (32768 - ywr) ycl := ⟨_, rfl⟩; have hG3 : GD ((x.hb, winO yY) :: (x.bb, intsO yX 148) :: (x.cbk, intsO yC 149) :: (yG ++ x.D)) x.eof x.shb x.uex x.hdr x.dic x.chk := (((hx.gd.app yG).cons _).cons _).cons _
  have hG4 : ∀ o, GD ((x.hb, o) :: (x.bb, intsO yX 148) :: (x.cbk, intsO yC 149) :: (yG ++ x.D)) x.eof x.shb x.uex x.hdr x.dic x.chk := fun o => (((hx.gd.app yG).cons _).cons _).cons _; have hsd : Dat x.p x.S ((x.hb, winO yY) :: (x.bb, intsO yX 148) :: (x.cbk, intsO yC 149) :: (yG ++ x.D)) := (((hx.src.hd.app yG).cons _).cons _).cons _; have hSl := hx.src.hl; have hpc := Src.piece hx.src j n
  refine CallsL_of func77 rfl ntmps77 rfl ?_; try dsimp only [initE, Nat.zero_add]
  refine W_seq fun K1 hK1 => ?_; refine W_region ?_; refine xm rfl rfl ?_; refine xn rfl rfl ?_; refine xp (v_fa (q := 1037) rfl underlying146 rfl rfl sizeOf142 rfl) rfl ?_; refine wc (e_c rfl rfl rfl call87) rfl rfl rfl (writeSlice_spec hwin) .all ?_; rintro _ _ ⟨rfl, rfl⟩; rw [pmv_win hw]; (try simp only [ap4]); refine xa rfl rfl ?_; refine WO_nil (sq_n (hK1 _ _ ?_)); refine W.keep [0,2] rfl ?_
  refine W_seq_mid (fun E H => ∃ dc, n ≤ dc ∧ Sub E [(0, .pointer (some ⟨x.fb, 0, none⟩)), (2, .slice (some ⟨x.hb, ywr, none⟩) n dc)] ∧ H = (x.fb, fO (fc (.iface 42 (.pointer (some ⟨x.k, 0, none⟩))) x.rBuf (.int .i64 yro) yb (uV 0) yh1 yh2 (.pointer (some ⟨x.bb, 0, none⟩)) (.pointer (some ⟨x.cbk, 0, none⟩)) (winV x.hb) (iV ywr) (iV yrd) (.bool yfull) yb0 yb1 yb2 yb3 (fnV ystep) (iV ysst) (.bool yfin) .nilIface (.slice tp 0 tc) yhl yhd (iV ycl) (iV ycd))) :: (x.k, srcO (.slice x.p x.S.length x.cap) (x.o + j) ypr) :: (x.hb, winO yY) :: (x.bb, intsO yX 148) :: (x.cbk, intsO yC 149) :: (yG ++ x.D)) ?_ ?_
  · skip
    refine W_seq fun K3 hK3 => ?_; refine W_region ?_; refine xm rfl rfl ?_; refine xp (v_len rfl underlying22 rfl) rfl ?_; refine xm rfl rfl ?_; refine xn rfl rfl ?_; refine xp (v_fa (q := 1052) rfl underlying146 rfl rfl sizeOf3 rfl) rfl ?_; refine xv (ld rfl rfl isAgg3) rfl ?_; refine xp (n_gt rfl rfl rfl) rfl ?_; refine WO_nil (sq_n (hK3 _ _ ?_)); refine W.keep [0,2,15] rfl ?_
    refine W_cond rfl (fun hc0 => ?_) (fun hc0 => ?_)
    · replace hc0 := of_decide_eq_true hc0; refine W_region ?_; refine xm rfl rfl ?_; refine xm rfl rfl ?_; refine xn rfl rfl ?_; refine xp (v_fa (q := 1052) rfl underlying146 rfl rfl sizeOf3 rfl) rfl ?_; refine xv (ld rfl rfl isAgg3) rfl ?_; refine xp (v_slp rfl underlying22 sizeOf5 rfl .none (.some rfl) .none (by omega) (by omega) (by omega) (by decide)) rfl ?_; refine xa rfl rfl ?_; refine WO_nil (sq_n (?_)); first
      | (have hq : ycl < 32768 - ywr := hc0
         have e1 : n = ycl := by omega
         rw [e1, pmv_zero]; exact ⟨32768 - ywr, by omega, ⟨rfl, rfl, trivial⟩, rfl⟩)
      | (have e1 : n = 32768 - ywr := by omega
         rw [e1]; exact ⟨32768 - ywr, Nat.le_refl _, ⟨rfl, rfl, trivial⟩, rfl⟩)
    · replace hc0 := of_decide_eq_false hc0; refine W_skip (sq_n (?_)); first
      | (have hq : ycl < 32768 - ywr := hc0
         have e1 : n = ycl := by omega
         rw [e1, pmv_zero]; exact ⟨32768 - ywr, by omega, ⟨rfl, rfl, trivial⟩, rfl⟩)
      | (have e1 : n = 32768 - ywr := by omega
         rw [e1]; exact ⟨32768 - ywr, Nat.le_refl _, ⟨rfl, rfl, trivial⟩, rfl⟩)
  · rintro E H ⟨dc, hdc, hE, rfl⟩; refine W.env hE ?_
    refine W_seq_mid (fun E H => ∃ cnt e pr2 Y2, Sub E [(0, .pointer (some ⟨x.fb, 0, none⟩)), (3, iV cnt), (4, e)] ∧ cnt ≤ n ∧ cnt ≤ x.B.length - j ∧ Win Y2 (ywr + cnt) yfull (O ++ (x.B.drop j).take cnt) ∧ ((cnt = n ∧ e = .nilIface) ∨ (cnt < n ∧ cnt = x.B.length - j ∧ (e = errV x.eof ∨ e = errV x.uex))) ∧ H = (x.fb, fO (fc (.iface 42 (.pointer (some ⟨x.k, 0, none⟩))) x.rBuf (.int .i64 yro) yb (uV 0) yh1 yh2 (.pointer (some ⟨x.bb, 0, none⟩)) (.pointer (some ⟨x.cbk, 0, none⟩)) (winV x.hb) (iV ywr) (iV yrd) (.bool yfull) yb0 yb1 yb2 yb3 (fnV ystep) (iV ysst) (.bool yfin) .nilIface (.slice tp 0 tc) yhl yhd (iV ycl) (iV ycd))) :: (x.k, srcO (.slice x.p x.S.length x.cap) (x.o + j + cnt) pr2) :: (x.hb, winO Y2) :: (x.bb, intsO yX 148) :: (x.cbk, intsO yC 149) :: (yG ++ x.D)) ?_ ?_
    · skip
      by_cases hn0 : n = 0
      · skip
        refine W_region ?_; refine xm rfl rfl ?_; refine xn rfl rfl ?_; refine xp (v_fa (q := 0) rfl underlying146 rfl rfl sizeOf82 rfl) rfl ?_; refine xv (ld rfl rfl isAgg82) rfl ?_; refine xm rfl rfl ?_; rw [hn0]; refine wc (e_c rfl rfl rfl call51) rfl rfl rfl (readFull_none) .nil ?_; rintro _ _ ⟨rfl, rfl⟩; (try simp only [ap4]); refine xm rfl rfl ?_; refine xp (v_ex rfl rfl rfl) rfl ?_
        refine xp (v_ex rfl rfl rfl) rfl ?_; refine xa rfl rfl ?_; refine xa rfl rfl ?_; refine WO_nil (sq_n (?_)); first
        | (have hq := hn0; have hq2 : n = 0 := hn0; exact ⟨0, _, _, _, ⟨rfl, rfl, rfl, trivial⟩, by omega, by omega, (by simpa using win), .inl ⟨by omega, rfl⟩, rfl⟩)
        | (have hq := hle; exact ⟨n, _, _, _, ⟨rfl, rfl, rfl, trivial⟩, by omega, by omega, (by have := win.write (ys := (x.B.drop j).take n) (by simp; omega); rwa [show ((x.B.drop j).take n).length = n by simp; omega] at this), .inl ⟨rfl, rfl⟩, rfl⟩)
        | (have e2 : (x.B.drop j).take (x.S.length - (x.o + j)) = (x.B.drop j).take n := by rw [List.take_of_length_le (by simp; omega), List.take_of_length_le (by simp; omega)]
           refine ⟨x.S.length - (x.o + j), _, _, _, ⟨rfl, rfl, rfl, trivial⟩, by omega, by omega, (by rw [e2]; have := win.write (ys := (x.B.drop j).take n) (by simp; omega); rwa [show ((x.B.drop j).take n).length = x.S.length - (x.o + j) by simp; omega] at this), .inr ⟨by omega, by omega, ?_⟩, (by rw [show x.o + j + (x.S.length - (x.o + j)) = x.S.length by omega])⟩; split
           · exact .inl rfl
           · exact .inr rfl)
      · skip
        refine W_region ?_; refine xm rfl rfl ?_; refine xn rfl rfl ?_; refine xp (v_fa (q := 0) rfl underlying146 rfl rfl sizeOf82 rfl) rfl ?_; refine xv (ld rfl rfl isAgg82) rfl ?_; refine xm rfl rfl ?_
        refine wc (e_c rfl rfl rfl call51) rfl rfl rfl (readFull_spec (k := x.k) (cap := x.cap) (pr := ypr) (dcap := dc) hG3 hsd (by omega) (by omega) hx.cap AtH.here (by omega) hdc (by omega) (by rw [List.length_map]; omega) (hG4 _)) (.skip .all) ?_; rintro _ _ ⟨pr2, ⟨hle, rfl, rfl⟩ | ⟨hlt, rfl, rfl⟩⟩; all_goals (try simp only [ap4])
        · rw [hpc, put_map]; refine xm rfl rfl ?_; refine xp (v_ex rfl rfl rfl) rfl ?_; refine xp (v_ex rfl rfl rfl) rfl ?_; refine xa rfl rfl ?_; refine xa rfl rfl ?_; refine WO_nil (sq_n (?_)); first
          | (have hq := hn0; have hq2 : n = 0 := hn0; exact ⟨0, _, _, _, ⟨rfl, rfl, rfl, trivial⟩, by omega, by omega, (by simpa using win), .inl ⟨by omega, rfl⟩, rfl⟩)
          | (have hq := hle; exact ⟨n, _, _, _, ⟨rfl, rfl, rfl, trivial⟩, by omega, by omega, (by have := win.write (ys := (x.B.drop j).take n) (by simp; omega); rwa [show ((x.B.drop j).take n).length = n by simp; omega] at this), .inl ⟨rfl, rfl⟩, rfl⟩)
          | (have e2 : (x.B.drop j).take (x.S.length - (x.o + j)) = (x.B.drop j).take n := by rw [List.take_of_length_le (by simp; omega), List.take_of_length_le (by simp; omega)]
             refine ⟨x.S.length - (x.o + j), _, _, _, ⟨rfl, rfl, rfl, trivial⟩, by omega, by omega, (by rw [e2]; have := win.write (ys := (x.B.drop j).take n) (by simp; omega); rwa [show ((x.B.drop j).take n).length = x.S.length - (x.o + j) by simp; omega] at this), .inr ⟨by omega, by omega, ?_⟩, (by rw [show x.o + j + (x.S.length - (x.o + j)) = x.S.length by omega])⟩; split
             · exact .inl rfl
             · exact .inr rfl)
        · rw [hpc, put_map]; refine xm rfl rfl ?_; refine xp (v_ex rfl rfl rfl) rfl ?_; refine xp (v_ex rfl rfl rfl) rfl ?_; refine xa rfl rfl ?_; refine xa rfl rfl ?_; refine WO_nil (sq_n (?_)); first
          | (have hq := hn0; have hq2 : n = 0 := hn0; exact ⟨0, _, _, _, ⟨rfl, rfl, rfl, trivial⟩, by omega, by omega, (by simpa using win), .inl ⟨by omega, rfl⟩, rfl⟩)
          | (have hq := hle; exact ⟨n, _, _, _, ⟨rfl, rfl, rfl, trivial⟩, by omega, by omega, (by have := win.write (ys := (x.B.drop j).take n) (by simp; omega); rwa [show ((x.B.drop j).take n).length = n by simp; omega] at this), .inl ⟨rfl, rfl⟩, rfl⟩)
          | (have e2 : (x.B.drop j).take (x.S.length - (x.o + j)) = (x.B.drop j).take n := by rw [List.take_of_length_le (by simp; omega), List.take_of_length_le (by simp; omega)]
             refine ⟨x.S.length - (x.o + j), _, _, _, ⟨rfl, rfl, rfl, trivial⟩, by omega, by omega, (by rw [e2]; have := win.write (ys := (x.B.drop j).take n) (by simp; omega); rwa [show ((x.B.drop j).take n).length = x.S.length - (x.o + j) by simp; omega] at this), .inr ⟨by omega, by omega, ?_⟩, (by rw [show x.o + j + (x.S.length - (x.o + j)) = x.S.length by omega])⟩; split
             · exact .inl rfl
             · exact .inr rfl)
    · rintro E H ⟨cnt, e, pr2, Y2, hE, hcn, hcB, win2, hce, rfl⟩; refine W.env hE ?_; have hwin2 := win2.le; have htl : ((x.B.drop j).take cnt).length = cnt := by rw [List.length_take, List.length_drop]; omega
      have hO2 : O ++ (x.B.drop j).take cnt = Dl ++ (pend ++ (x.B.drop j).take cnt) := by rw [hO]; simp
      have hpl2 : (pend ++ (x.B.drop j).take cnt).length = ywr + cnt - yrd := by rw [List.length_append, hpl, htl]; omega
      have hol2 : (O ++ (x.B.drop j).take cnt).length = O.length + cnt := by rw [List.length_append, htl]
      have hol3 : (O ++ (x.B.drop j).take cnt).length ≤ 258 * (8 * x.B.length + 300) ∧ ∀ c ∈ O ++ (x.B.drop j).take cnt, c < 256 := ⟨by omega, fun c hc => (List.mem_append.1 hc).elim (ol.2 c) fun h => Src.mem hx.src (List.mem_of_mem_drop (List.mem_of_mem_take h))⟩; have hss2 : ysst = 0 ∨ ysst = 1 ∧ 0 < ycd ∧ ycd ≤ 32768 ∧ ycd ≤ (O ++ (x.B.drop j).take cnt).length := by omega
      refine W_seq fun K5 hK5 => ?_; refine W_region ?_; refine xm rfl rfl ?_; refine xn rfl rfl ?_; refine xp (v_fa (q := 2) rfl underlying146 rfl rfl sizeOf2 rfl) rfl ?_; refine xv (ld rfl rfl isAgg2) rfl ?_; refine xm rfl rfl ?_; refine xp (v_add rfl rfl rfl rfl) rfl ?_; refine xn rfl rfl ?_; refine xp (v_fa (q := 2) rfl underlying146 rfl rfl sizeOf2 rfl) rfl ?_; refine wst rfl rfl rfl sizeOf2 rfl rfl rfl ?_
      refine WO_nil (sq_n (hK5 _ _ ?_)); refine W.keep [0,3,4] rfl ?_; refine W_seq fun K6 hK6 => ?_; refine W_region ?_; refine xm rfl rfl ?_; refine xn rfl rfl ?_; refine xp (v_fa (q := 1052) rfl underlying146 rfl rfl sizeOf3 rfl) rfl ?_; refine xv (ld rfl rfl isAgg3) rfl ?_; refine xm rfl rfl ?_; refine xp (n_sub rfl rfl rfl kI (by omega) (by omega)) rfl ?_; refine xn rfl rfl ?_
      refine xp (v_fa (q := 1052) rfl underlying146 rfl rfl sizeOf3 rfl) rfl ?_; refine wst rfl rfl rfl sizeOf3 rfl rfl rfl ?_; refine WO_nil (sq_n (hK6 _ _ ?_)); refine W.keep [0,3,4] rfl ?_; refine W_seq fun K7 hK7 => ?_; refine W_region ?_; refine xm rfl rfl ?_; refine xn rfl rfl ?_; refine xp (v_fa (q := 1037) rfl underlying146 rfl rfl sizeOf142 rfl) rfl ?_; refine xm rfl rfl ?_
      refine wc (e_c rfl rfl rfl call88) rfl rfl rfl (writeMark_spec hwin2) .all ?_; rintro _ _ rfl; (try simp only [ap4]); refine WO_nil (sq_n (hK7 _ _ ?_)); refine W.keep [0,4] rfl ?_; refine W_seq fun K8 hK8 => ?_; refine W_seq fun K9 hK9 => ?_; rcases hce with ⟨rfl, rfl⟩ | ⟨hc1, hc2, hc3⟩
      · skip
        refine W_region ?_; refine xm rfl rfl ?_; refine xp (v_nen rfl rfl) rfl ?_; refine WO_nil (sq_n (hK9 _ _ ?_)); refine W_cond_f rfl ?_; refine W_skip (sq_n (hK8 _ _ ?_)); refine W.keep [0] rfl ?_; refine W_seq fun K10 hK10 => ?_; refine W_seq fun K11 hK11 => ?_; by_cases h32 : ywr + cnt = 32768
        · skip
          refine W_region ?_; refine xm rfl rfl ?_; refine xn rfl rfl ?_; refine xp (v_fa (q := 1037) rfl underlying146 rfl rfl sizeOf142 rfl) rfl ?_; refine wc (e_c rfl rfl rfl call81) rfl rfl rfl (availWrite_spec hwin2) .all ?_; rintro _ _ ⟨rfl, rfl⟩; (try simp only [ap4]); refine xp (v_eq rfl rfl rfl (dT (by omega))) rfl ?_; refine xm rfl rfl ?_; refine xno rfl ?_; refine xno rfl ?_; refine xno rfl ?_
          refine xno rfl ?_; refine xno rfl ?_; refine xp (v_pt rfl rfl rfl) rfl ?_; refine WO_nil (sq_n (hK11 _ _ ?_)); refine W.keep [0,70] rfl ?_; refine W_cond_t rfl ?_; refine W_seq fun K12 hK12 => ?_; refine W_region ?_; refine xm rfl rfl ?_; refine xm rfl rfl ?_; refine xn rfl rfl ?_; refine xp (v_fa (q := 1037) rfl underlying146 rfl rfl sizeOf142 rfl) rfl ?_
          refine wc (e_c rfl rfl rfl call75) rfl rfl rfl (readFlush_spec (by omega) hwin2) .all ?_; rintro _ _ ⟨rfl, rfl⟩; (try simp only [ap4]); refine xn rfl rfl ?_; refine xp (v_fa (q := 1049) rfl underlying146 rfl rfl sizeOf22 rfl) rfl ?_; refine wst rfl rfl rfl sizeOf22 rfl rfl rfl ?_; refine WO_nil (sq_n (hK12 _ _ ?_)); refine W.keep [0] rfl ?_; refine W_seq fun K13 hK13 => ?_; refine W_region ?_
          refine xm rfl rfl ?_; refine xn rfl rfl ?_; refine xp (v_fa (q := 1045) rfl underlying146 rfl rfl sizeOf143 rfl) rfl ?_; refine wst rfl rfl rfl sizeOf143 rfl rfl rfl ?_; refine WO_nil (sq_n (hK13 _ _ ?_)); refine W.keep [0] rfl ?_; refine W_ret (sq_r (ret_of (v := _) rfl ?_)); rw [if_pos h32, if_pos h32]; have w3 : Win Y2 0 true (O ++ (x.B.drop j).take cnt) := by rw [h32] at win2; exact win2.wrap
          have hd3 := DatV.win (hb := x.hb) win2 hO2 hpl2 (by omega)
          refine ⟨(FSt.mk (_) yb (0) yh1 yh2 (0) (0) (true) yb0 yb1 yb2 yb3 (77) ysst yfin (.nilIface) (flV x.hb (ywr + cnt) yrd) yhl yhd (ycl - cnt) ycd (x.o + j + cnt) (pr2) (Y2) yX yC yG), _, pend ++ (x.B.drop j).take cnt, rfl, ⟨w3, Nat.le_refl _, hX, hC, z1, k1, z2, k2, ⟨_, 32768 - yrd, (by rw [hpl2]), by omega, hd3⟩, ⟨[], (by rw [List.append_nil]; exact hO2), rfl⟩, hol3⟩, .inl ⟨_, ?_, P + 8 * cnt, j + cnt, ⟨by simp only; omega, by simp only; omega, by omega, hb, rfl, by simp, hss2⟩, rfl, .inr (.inr ⟨rfl, rfl, by simp only; omega, by omega, kf, ?_, ?_, by omega⟩)⟩⟩
          · simp only [mu]; rw [if_neg (by simp), if_pos trivial]; omega
          · intro h; simp only at h ⊢
            rw [hR1 (by omega)]
            have e1 : (x.B.drop j).take ycl = (x.B.drop j).take cnt ++ (x.B.drop (j + cnt)).take (ycl - cnt) := by
              have := List.take_add (l := x.B.drop j) (i := cnt) (j := ycl - cnt); rwa [Nat.add_sub_cancel' (by omega), List.drop_drop] at this
            rw [e1, ← List.append_assoc, show j + cnt + (ycl - cnt) = j + ycl by omega]; rfl
          · intro h; exact hR2 (by simp only at h; omega)
        · skip
          refine W_region ?_; refine xm rfl rfl ?_; refine xn rfl rfl ?_; refine xp (v_fa (q := 1037) rfl underlying146 rfl rfl sizeOf142 rfl) rfl ?_; refine wc (e_c rfl rfl rfl call81) rfl rfl rfl (availWrite_spec hwin2) .all ?_; rintro _ _ ⟨rfl, rfl⟩; (try simp only [ap4]); refine xp (v_eq rfl rfl rfl (dF (by omega))) rfl ?_; refine xm rfl rfl ?_; refine xm rfl rfl ?_; refine xn rfl rfl ?_
          refine xp (v_fa (q := 1052) rfl underlying146 rfl rfl sizeOf3 rfl) rfl ?_; refine xv (ld rfl rfl isAgg3) rfl ?_; refine xp (v_gt rfl rfl rfl (dF (by omega))) rfl ?_; refine xp (v_pf rfl rfl rfl) rfl ?_; refine WO_nil (sq_n (hK11 _ _ ?_)); refine W.keep [0,70] rfl ?_; refine W_cond_f rfl ?_; refine W_skip (sq_n (hK10 _ _ ?_)); have hcy : cnt = ycl := by omega
          have hR3 := hR1 (by omega); rw [← hcy] at hR3; refine W_region ?_; refine xm rfl rfl ?_; refine wc (e_c rfl rfl rfl call76) rfl rfl rfl (finishBlock_spec (((hG4 _).cons _)) (by omega) hwin2) .all ?_; intro _ H2 hfb; (try simp only [ap4]); refine WO_nil (end_of (v := _) rfl ?_); rcases hfb with ⟨rfl, rfl⟩ | ⟨rfl, hrd, rfl⟩ | ⟨rfl, hrd, rfl⟩
          · refine ⟨(FSt.mk (_) yb (0) yh1 yh2 (ywr + cnt) yrd yfull yb0 yb1 yb2 yb3 (64) ysst (false) (.nilIface) (.slice tp 0 tc) yhl yhd (ycl - cnt) ycd (x.o + j + cnt) (pr2) (Y2) yX yC yG), _, [], rfl, ⟨win2, (by show yrd ≤ ywr + cnt; omega), hX, hC, z1, k1, z2, k2, ⟨tp, tc, rfl, Nat.zero_le _, DatV.nil⟩, ⟨_, (by rw [List.append_nil]; exact hO2), hpl2⟩, hol3⟩, .inl ⟨_, ?_, P + 8 * cnt, j + cnt, ⟨by simp only; omega, by simp only; omega, by omega, hb, rfl, by simp only; omega, hss2⟩, rfl, .inl ⟨rfl, by simp, (by intro _; simp only; omega), by omega, kf, ?_, by omega⟩⟩⟩
            · simp only [mu]; rw [if_neg (by simp), if_neg (by simp)]; omega
            · rw [hR3, show P + 8 * cnt = 8 * (j + cnt) by omega]; rfl
          · have hR4 : R = (O ++ (x.B.drop j).take cnt, ⟨8 * (j + cnt), false⟩) := by rw [hR3, rinf_end (.inl (by simp [finN]))]
            have hal : (ralign ⟨8 * (j + cnt), false⟩).at_ / 8 = j + cnt := by show (8 * (j + cnt) + 7) / 8 * 8 / 8 = _; omega
            exact ⟨(FSt.mk (_) yb (0) yh1 yh2 (ywr + cnt) yrd yfull yb0 yb1 yb2 yb3 (64) ysst (true) (errV x.eof) (.slice tp 0 tc) yhl yhd (ycl - cnt) ycd (x.o + j + cnt) (pr2) (Y2) yX yC yG), _, [], rfl, ⟨win2, (by show yrd ≤ ywr + cnt; omega), hX, hC, z1, k1, z2, k2, ⟨tp, tc, rfl, Nat.zero_le _, DatV.nil⟩, ⟨_, (by rw [List.append_nil]; exact hO2), hpl2⟩, hol3⟩, .inr (.inl ⟨rfl, by rw [hR4], by rw [hR4], by rw [hR4, hal]; show x.o + j + cnt = _; omega, by rw [hR4, hal]; omega, hrd⟩)⟩
          · rw [if_neg h32, if_neg h32]; have hR4 : R = (O ++ (x.B.drop j).take cnt, ⟨8 * (j + cnt), false⟩) := by rw [hR3, rinf_end (.inl (by simp [finN]))]
            have hal : (ralign ⟨8 * (j + cnt), false⟩).at_ / 8 = j + cnt := by show (8 * (j + cnt) + 7) / 8 * 8 / 8 = _; omega
            have hd3 := DatV.win (hb := x.hb) win2 hO2 hpl2 (by omega)
            exact ⟨(FSt.mk (_) yb (0) yh1 yh2 (ywr + cnt) (ywr + cnt) yfull yb0 yb1 yb2 yb3 (64) ysst (true) (errV x.eof) (flV x.hb (ywr + cnt) yrd) yhl yhd (ycl - cnt) ycd (x.o + j + cnt) (pr2) (Y2) yX yC yG), _, pend ++ (x.B.drop j).take cnt, rfl, ⟨win2, Nat.le_refl _, hX, hC, z1, k1, z2, k2, ⟨_, 32768 - yrd, (by rw [hpl2]), by omega, hd3⟩, ⟨[], (by rw [List.append_nil]; exact hO2), (Nat.sub_self _).symm⟩, hol3⟩, .inr (.inl ⟨rfl, by rw [hR4], by rw [hR4], by rw [hR4, hal]; show x.o + j + cnt = _; omega, by rw [hR4, hal]; omega, rfl⟩)⟩
      · have hif : isIf e = true := by rcases hc3 with rfl | rfl <;> rfl
        refine W_region ?_; refine xm rfl rfl ?_; refine xp (v_nei rfl rfl hif) rfl ?_; refine WO_nil (sq_n (hK9 _ _ ?_)); refine W_cond_t rfl ?_; refine W_seq fun K14 hK14 => ?_; refine W_region ?_; refine xm rfl rfl ?_; refine xm rfl rfl ?_
        refine wc (e_c rfl rfl rfl call74) rfl rfl rfl ((show CallsL Tryz.prog 74 #[e] _ (fun v H' => v = errV x.uex ∧ H' = _) from by rcases hc3 with rfl | rfl; exact noEOF_eof (((hG4 _).cons _).cons _); exact noEOF_uex (((hG4 _).cons _).cons _))) .all ?_; rintro _ _ ⟨rfl, rfl⟩; (try simp only [ap4]); refine xn rfl rfl ?_; refine xp (v_fa (q := 1048) rfl underlying146 rfl rfl sizeOf47 rfl) rfl ?_
        refine wst rfl rfl rfl sizeOf47 rfl rfl rfl ?_; refine WO_nil (sq_n (hK14 _ _ ?_)); refine W.keep [0] rfl ?_; refine W_ret (sq_r (ret_of (v := _) rfl ?_))
        exact ⟨(FSt.mk (_) yb (0) yh1 yh2 (ywr + cnt) yrd yfull yb0 yb1 yb2 yb3 ystep ysst yfin (errV x.uex) (.slice tp 0 tc) yhl yhd (ycl - cnt) ycd (x.o + j + cnt) (pr2) (Y2) yX yC yG), _, [], rfl, ⟨win2, (by show yrd ≤ ywr + cnt; omega), hX, hC, z1, k1, z2, k2, ⟨tp, tc, rfl, Nat.zero_le _, DatV.nil⟩, ⟨_, (by rw [List.append_nil]; exact hO2), hpl2⟩, hol3⟩, .inr (.inr ⟨.inl rfl, hR2 (by omega), by simp only; omega⟩)⟩
end
end Go.Proofs.YtpbahgddoamhgaaGreatDoor
namespace Go.Proofs.YtpbahgddoamhgaaGreatDoor
open Go Sx Pu
set_option maxRecDepth 10000

theorem rstored_bytes {B O : List Nat} {P j : Nat} (hB : ∀ i, B.getD i 0 < 256) (hP : (P + 7) / 8 = j) (hj : j ≤ B.length) :
    (B.length < j + 4 → (rstored B O ⟨P, false⟩).2.fail = true) ∧
    (j + 4 ≤ B.length →
      ((B.getD j 0 + B.getD (j + 1) 0 * 256) + (B.getD (j + 2) 0 + B.getD (j + 3) 0 * 256) ≠ 65535 → (rstored B O ⟨P, false⟩).2.fail = true) ∧
      ((B.getD j 0 + B.getD (j + 1) 0 * 256) + (B.getD (j + 2) 0 + B.getD (j + 3) 0 * 256) = 65535 →
        (j + 4 + (B.getD j 0 + B.getD (j + 1) 0 * 256) ≤ B.length → rstored B O ⟨P, false⟩ = (O ++ (B.drop (j + 4)).take (B.getD j 0 + B.getD (j + 1) 0 * 256), ⟨8 * (j + 4 + (B.getD j 0 + B.getD (j + 1) 0 * 256)), false⟩)) ∧
        (B.length < j + 4 + (B.getD j 0 + B.getD (j + 1) 0 * 256) → (rstored B O ⟨P, false⟩).2.fail = true))) := by
  have ha : ralign ⟨P, false⟩ = ⟨8 * j, false⟩ := by
    show RS.mk ((P + 7) / 8 * 8) false = _
    rw [hP, Nat.mul_comm]
  have two : ∀ i, bitsv B (8 * i) 16 = B.getD i 0 + B.getD (i + 1) 0 * 256 := fun i => by
    rw [show (16 : Nat) = 8 + 8 from rfl, bitsv_add, bitsv_byte B i (hB i), show 8 * i + 8 = 8 * (i + 1) by omega, bitsv_byte B (i + 1) (hB (i + 1))]
  have b0 := hB j; have b1 := hB (j + 1); have b2 := hB (j + 2); have b3 := hB (j + 3); constructor
  · intro h
    have hc : (rbits B 16 (rbits B 16 ⟨8 * j, false⟩).2).2.fail = true := by
      rcases Nat.lt_or_ge (8 * B.length) (8 * j + 16) with h1 | h1
      · have := rbits_short (B := B) (P := 8 * j) (n := 16) h1 (by omega); rw [rbits_fail this]; exact this
      · rw [rbits_eq h1]; exact rbits_short (by omega) (by omega)
    unfold rstored; rw [ha, if_pos (.inl hc)]; rfl
  · intro h; have e1 := rbits_eq (B := B) (P := 8 * j) (n := 16) (by omega); have e2 := rbits_eq (B := B) (P := 8 * j + 16) (n := 16) (by omega); have t1 := two j; have t2 := two (j + 2); rw [show 8 * (j + 2) = 8 * j + 16 by omega, show j + 2 + 1 = j + 3 from rfl] at t2; generalize hn : B.getD j 0 + B.getD (j + 1) 0 * 256 = n at *; generalize hnn : B.getD (j + 2) 0 + B.getD (j + 3) 0 * 256 = nn at *
    have n1 : n < 65536 := by omega
    have n2 : nn < 65536 := by omega
    have hx : n ^^^ nn = 65535 ↔ n + nn = 65535 := by
      have hor : ∀ a : Nat, a < 65536 → a ^^^ 65535 = 65535 - a := by
        intro a ha; have := Nat.xor_lt_two_pow (n := 16) ha (show 65535 < 2 ^ 16 by decide)
        have h1 : a ^^^ 65535 = 65535 - a := by
          apply Nat.eq_of_testBit_eq
          intro i; rw [Nat.testBit_xor, show 65535 - a = 2 ^ 16 - (a + 1) by omega, Nat.testBit_two_pow_sub_succ ha, show (65535 : Nat) = 2 ^ 16 - 1 from rfl, Nat.testBit_two_pow_sub_one]; by_cases hi : i < 16
          · simp [hi]
          · have : a.testBit i = false := Nat.testBit_lt_two_pow (Nat.lt_of_lt_of_le ha (show 2 ^ 16 ≤ 2 ^ i from Nat.pow_le_pow_right (n := 2) (by decide) (by omega))); simp [hi, this]
        exact h1
      constructor
      · intro h; have : nn = n ^^^ 65535 := by rw [← h, ← Nat.xor_assoc, Nat.xor_self, Nat.zero_xor]
        rw [hor n n1] at this; omega
      · intro h; have : nn = n ^^^ 65535 := by rw [hor n n1]; omega
        rw [this, ← Nat.xor_assoc, Nat.xor_self, Nat.zero_xor]
    have hu : ∀ Z : Prop, Z → True := fun _ _ => trivial; unfold rstored; rw [ha, e1]; simp only [t1]
    rw [e2]; simp only [t2]
    rw [show (8 * j + 16 + 16) / 8 = j + 4 by omega]; refine ⟨fun h1 => ?_, fun h1 => ⟨fun h2 => ?_, fun h2 => ?_⟩⟩
    · rw [if_pos (.inr (.inl (fun e => h1 (hx.1 e))))]; rfl
    · rw [if_neg (by rintro (h3 | h3 | h3); cases h3; exact h3 (hx.2 h1); omega)]; congr 2
      · rw [List.drop_take, Nat.add_sub_cancel_left]
      · congr 1; omega
    · rw [if_pos (.inr (.inr (by omega)))]; rfl
section
variable {xr xrBuf xro xb xnb xbits xcb xhist xwr xrd xfull xb0 xb1 xb2 xb3 xstep xsst xfin xerr xtr xhl xhd xcl xcd : Value} {xh1 xh2 : HD}
theorem put_tl {A B C T ys : List Value} {k : Nat} (hA : A.length = 5) (hB : B.length = 515) (hC : C.length = 515) : put (A ++ (B ++ (C ++ T))) (1035 + k) ys = A ++ (B ++ (C ++ put T k ys)) := by
  unfold put; rw [List.take_append, List.take_append, List.take_append, List.drop_append, List.drop_append, List.drop_append, List.take_of_length_le (by omega), List.take_of_length_le (by omega), List.take_of_length_le (by omega), List.drop_eq_nil_of_le (by omega), List.drop_eq_nil_of_le (by omega), List.drop_eq_nil_of_le (by omega), hA, hB, hC]
  rw [show 1035 + k - 5 - 515 - 515 = k by omega, show 1035 + k + ys.length - 5 - 515 - 515 = k + ys.length by omega]; simp
theorem put_buf {ys : List Value} (h : ys.length ≤ 4) : put (fc xr xrBuf xro xb xnb xh1 xh2 xbits xcb xhist xwr xrd xfull xb0 xb1 xb2 xb3 xstep xsst xfin xerr xtr xhl xhd xcl xcd) 1041 ys = (fc xr xrBuf xro xb xnb xh1 xh2 xbits xcb xhist xwr xrd xfull (ys.getD 0 xb0) (ys.getD 1 xb1) (ys.getD 2 xb2) (ys.getD 3 xb3) xstep xsst xfin xerr xtr xhl xhd xcl xcd) := by
  unfold fc; rw [show 1041 = 1035 + 6 from rfl, put_tl rfl (HD.cells_length _) (HD.cells_length _)]; match ys, h with
  | [], _ => rfl
  | [a], _ => rfl
  | [a, b], _ => rfl
  | [a, b, c], _ => rfl
  | [a, b, c, d], _ => rfl
  | a :: b :: c :: d :: e :: l, h => simp at h
end
instance (priority := 2000) : OA 1041 0 1 1041 := ⟨rfl⟩
instance (priority := 2000) : OA 1041 1 1 1042 := ⟨rfl⟩
instance (priority := 2000) : OA 1041 2 1 1043 := ⟨rfl⟩
instance (priority := 2000) : OA 1041 3 1 1044 := ⟨rfl⟩
theorem inv_nat {n : Nat} (h : n < 65536) : (BitVec.ofInt 64 (-1) ^^^ BitVec.ofInt 64 (n : Nat)).toNat = 18446744073709551615 - n := by
  have e1 : BitVec.ofInt 64 (-1) = BitVec.allOnes 64 := by decide
  have e2 : (BitVec.ofInt 64 (n : Nat)) = BitVec.ofNat 64 n := BitVec.ofInt_natCast ..; rw [e1, e2, BitVec.allOnes_xor, BitVec.toNat_not, BitVec.toNat_ofNat, Nat.mod_eq_of_lt (by omega)]
theorem inv_wrap {n : Nat} (h : n < 65536) : IntKind.i64.wrap ((BitVec.ofInt IntKind.i64.bits (-1) ^^^ BitVec.ofInt IntKind.i64.bits (n : Nat)).toNat) = -(n : Int) - 1 := by
  have e : (BitVec.ofInt IntKind.i64.bits (-1) ^^^ BitVec.ofInt IntKind.i64.bits (n : Nat)).toNat = 18446744073709551615 - n := inv_nat h; rw [e]; simp only [IntKind.wrap, IntKind.bits, IntKind.signed, Bool.true_and]
  split
  · rename_i h; simp at h; omega
  · rename_i h; simp at h; omega
end Go.Proofs.YtpbahgddoamhgaaGreatDoor
namespace Go.Proofs.YtpbahgddoamhgaaGreatDoor
open Go.Proofs.Tryz
open Go Sx Pu
set_option maxRecDepth 10000

theorem buf_get {B : List Nat} {j i : Nat} {d : Value} (h : j + i < B.length) (hi : i < 4) : (((B.drop j).take 4).map bV).getD i d = bV (B.getD (j + i) 0) := by
  rw [List.getD_eq_getElem?_getD, List.getElem?_map, List.getElem?_take, if_pos hi, List.getElem?_drop, List.getElem?_eq_getElem h, getD_lt h]; rfl
theorem inv16 {n : Nat} (h : n < 65536) : IntKind.u16.wrap (-(n : Int) - 1) = ((65535 - n : Nat) : Int) := by
  simp only [IntKind.wrap, IntKind.bits, IntKind.signed, Bool.false_and, Bool.false_eq_true, if_false]
  omega
section
variable {x : Cx} {R : List Nat × RS} {O Dl : List Nat} {P j m kf : Nat}
set_option maxHeartbeats 4000000 in
theorem dataBlock_spec {s : FSt} (hx : x.Ok) (hg : Good x O Dl [] s) (ha : At x O P j s) (hnb : s.nb ≤ 7) (hR : R = rinf x.B kf (rstored x.B O ⟨P, false⟩).1 (finN s) (rstored x.B O ⟨P, false⟩).2) (hkf : 8 * x.B.length + 1 < kf + P) (hol : O.length ≤ 258 * P) (hsc : s.sst = 1 → s.cl = 0) (hm : 1000 * (8 * x.B.length + 8 - P) + 1 ≤ m) :
    CallsL Tryz.prog 70 #[.pointer (some ⟨x.fb, 0, none⟩)] (s.H x) fun _ H' => StepOut x R Dl m H' := by
  obtain ⟨yro, yb, ynb, yh1, yh2, ywr, yrd, yfull, yb0, yb1, yb2, yb3, ystep, ysst, yfin, yerr, ytr, yhl, yhd, ycl, ycd, yi, ypr, yY, yX, yC, yG⟩ := s; obtain ⟨win, rw_, hX, hC, z1, k1, z2, k2, ⟨tp, tc, htr, htc, hdt⟩, ⟨pend, hO, hpl⟩, ol⟩ := hg; obtain ⟨hi, hP, hj, hb, he, hw, hss⟩ := ha; dsimp only at *; subst hi he htr; have hlen := hx.src.len; have hwin := win.le; have hSl := hx.src.hl
  obtain ⟨q1, q2⟩ := rstored_bytes (B := x.B) (O := O) (P := P) (j := j) (fun i => hx.src.byte i) (by omega) hj; have hpc := Src.piece hx.src j 4; have hG5 : ∀ a b : Nat × Obj, GD (a :: b :: (x.bb, intsO yX 148) :: (x.cbk, intsO yC 149) :: (yG ++ x.D)) x.eof x.shb x.uex x.hdr x.dic x.chk := fun a b => ((((hx.gd.app yG).cons _).cons _).cons _).cons _
  have hsd : ∀ a b : Nat × Obj, Dat x.p x.S (a :: b :: (x.bb, intsO yX 148) :: (x.cbk, intsO yC 149) :: (yG ++ x.D)) := fun a b => ((((hx.src.hd.app yG).cons _).cons _).cons _).cons _; refine CallsL_of func70 rfl ntmps70 rfl ?_; try dsimp only [initE, Nat.zero_add]
  refine W_seq fun K1 hK1 => ?_; refine W_region ?_; refine xm rfl rfl ?_; refine xn rfl rfl ?_; refine xp (v_fa (q := 4) rfl underlying146 rfl rfl sizeOf37 rfl) rfl ?_; refine wst rfl rfl rfl sizeOf37 rfl rfl rfl ?_; refine WO_nil (sq_n (hK1 _ _ ?_)); refine W.keep [0] rfl ?_; refine W_seq fun K2 hK2 => ?_; refine W_region ?_; refine xm rfl rfl ?_; refine xn rfl rfl ?_
  refine xp (v_fa (q := 3) rfl underlying146 rfl rfl sizeOf29 rfl) rfl ?_; refine wst rfl rfl rfl sizeOf29 rfl rfl rfl ?_; refine WO_nil (sq_n (hK2 _ _ ?_)); refine W.keep [0] rfl ?_; refine W_seq fun K3 hK3 => ?_; refine W_draw mixed ?_; refine WA_k (fuel := 6) [0,1,2,3,4,5,6,7] rfl (by kernel_rfl) ?_; refine ym rfl rfl rfl ?_; refine yp rfl (v_nil rfl rfl) rfl ?_
  refine yp rfl (v_fa (q := 0) rfl underlying146 rfl rfl sizeOf82 rfl) rfl ?_; refine yv rfl (ld rfl rfl isAgg82) rfl ?_; refine ym rfl rfl rfl ?_; refine yp rfl (v_nil rfl rfl) rfl ?_; refine yp rfl (v_fa (q := 1041) rfl underlying146 rfl rfl sizeOf85 rfl) rfl ?_; refine yp rfl (v_sla rfl underlying85 sizeOf5 rfl .none (.some rfl) (.some rfl) (by omega) (by omega) (by omega) (by decide)) rfl ?_; refine WK_nil ?_
  refine WA_one (k := 8) rfl (by kernel_rfl) ?_; rw [pmv_zero]; refine wc (e_c rfl rfl rfl call51) rfl rfl rfl (readFull_spec (k := x.k) (cap := x.cap) (i := x.o + j) (pr := ypr) (n := 4) (dcap := 4) (hG5 _ _) (hsd _ _) (by omega) (by omega) hx.cap AtH.here (by decide) (by decide) (by decide) (by rw [fc_length]; decide) (hG5 _ _)) (.cons (.there .here) .all) ?_; rintro _ _ ⟨pr2, ⟨hle, rfl, rfl⟩ | ⟨hlt, rfl, rfl⟩⟩
  all_goals (try simp only [ap4])
  · rw [hpc, put_buf (by simp; omega)]; refine WO_nil (sq_n ?_); refine WA_k (fuel := 0) [9,10,11,12,13] rfl (by kernel_rfl) ?_; refine ym rfl rfl rfl ?_; refine yp rfl (v_ex rfl rfl rfl) rfl ?_; refine yp rfl (v_ex rfl rfl rfl) rfl ?_; refine yp rfl (v_as rfl rfl) rfl ?_; refine yp rfl (v_as rfl rfl) rfl ?_; refine WK_nil ?_; refine WA_nil (by kernel_rfl) (sq_n (hK3 _ _ ?_)); refine W.keep [0,2,3] rfl ?_
    refine W_seq fun K4 hK4 => ?_; refine W.drop (.cons (.there .here) .all) ?_; refine W_region ?_; refine xm rfl rfl ?_; refine xn rfl rfl ?_; refine xp (v_fa (q := 2) rfl underlying146 rfl rfl sizeOf2 rfl) rfl ?_; refine xv (ld rfl rfl isAgg2) rfl ?_; refine xm rfl rfl ?_; refine xp (v_add rfl rfl rfl rfl) rfl ?_; refine xn rfl rfl ?_; refine xp (v_fa (q := 2) rfl underlying146 rfl rfl sizeOf2 rfl) rfl ?_
    refine wst rfl rfl rfl sizeOf2 rfl rfl rfl ?_; refine WO_nil (sq_n (hK4 _ _ ?_)); refine W.keep [0,3] rfl ?_; refine W_seq fun K5 hK5 => ?_; refine W_seq fun K6 hK6 => ?_; refine W_region ?_; refine xm rfl rfl ?_; refine xp (v_nen rfl rfl) rfl ?_; refine WO_nil (sq_n (hK6 _ _ ?_)); refine W_cond_f rfl ?_; refine W_skip (sq_n (hK5 _ _ ?_)); refine W.keep [0] rfl ?_; refine W_seq fun K7 hK7 => ?_
    have hj4 : j + 4 ≤ x.B.length := by omega
    rw [buf_get (by omega) (by decide), buf_get (by omega) (by decide), buf_get (by omega) (by decide), buf_get (by omega) (by decide)]; have c0 := hx.src.byte (j + 0); have c1 := hx.src.byte (j + 1); have c2 := hx.src.byte (j + 2); have c3 := hx.src.byte (j + 3); refine W_draw mixed ?_; refine WA_k (fuel := 0) [0,1,2,3,4,5,6,7,8,9,10,11,12,13,14] rfl (by kernel_rfl) ?_; refine ym rfl rfl rfl ?_
    refine yp rfl (v_nil rfl rfl) rfl ?_; refine yp rfl (v_fa (q := 1041) rfl underlying146 rfl rfl sizeOf85 rfl) rfl ?_; refine yp rfl (v_ixa rfl underlying85 sizeOf5 rfl rfl (by omega)) rfl ?_; refine yv rfl (ld rfl rfl isAgg5) rfl ?_; refine yp rfl (n_cv rfl underlying5 underlying3 rfl kI (by omega)) rfl ?_; refine ym rfl rfl rfl ?_; refine yp rfl (v_nil rfl rfl) rfl ?_
    refine yp rfl (v_fa (q := 1041) rfl underlying146 rfl rfl sizeOf85 rfl) rfl ?_; refine yp rfl (v_ixa rfl underlying85 sizeOf5 rfl rfl (by omega)) rfl ?_; refine yv rfl (ld rfl rfl isAgg5) rfl ?_; refine yp rfl (n_cv rfl underlying5 underlying3 rfl kI (by omega)) rfl ?_; refine yp rfl (n_shl rfl rfl rfl kI (by decide) (by omega)) rfl ?_; refine yp rfl (n_oradd rfl rfl rfl kI (by omega) (by omega) (by omega)) rfl ?_
    refine yp rfl (v_as rfl rfl) rfl ?_; refine WK_nil ?_; refine WA_nil (by kernel_rfl) (sq_n (hK7 _ _ ?_)); refine W.keep [0,4] rfl ?_; refine W_seq fun K8 hK8 => ?_; refine W_draw mixed ?_; refine WA_k (fuel := 0) [0,1,2,3,4,5,6,7,8,9,10,11,12,13,14] rfl (by kernel_rfl) ?_; refine ym rfl rfl rfl ?_; refine yp rfl (v_nil rfl rfl) rfl ?_; refine yp rfl (v_fa (q := 1041) rfl underlying146 rfl rfl sizeOf85 rfl) rfl ?_
    refine yp rfl (v_ixa rfl underlying85 sizeOf5 rfl rfl (by omega)) rfl ?_; refine yv rfl (ld rfl rfl isAgg5) rfl ?_; refine yp rfl (n_cv rfl underlying5 underlying3 rfl kI (by omega)) rfl ?_; refine ym rfl rfl rfl ?_; refine yp rfl (v_nil rfl rfl) rfl ?_; refine yp rfl (v_fa (q := 1041) rfl underlying146 rfl rfl sizeOf85 rfl) rfl ?_; refine yp rfl (v_ixa rfl underlying85 sizeOf5 rfl rfl (by omega)) rfl ?_
    refine yv rfl (ld rfl rfl isAgg5) rfl ?_; refine yp rfl (n_cv rfl underlying5 underlying3 rfl kI (by omega)) rfl ?_; refine yp rfl (n_shl rfl rfl rfl kI (by decide) (by omega)) rfl ?_; refine yp rfl (n_oradd rfl rfl rfl kI (by omega) (by omega) (by omega)) rfl ?_; refine yp rfl (v_as rfl rfl) rfl ?_; refine WK_nil ?_; refine WA_nil (by kernel_rfl) (sq_n (hK8 _ _ ?_)); refine W.keep [0,4,5] rfl ?_
    refine W_seq fun K9 hK9 => ?_; refine W_seq fun K10 hK10 => ?_; refine W_region ?_; refine xm rfl rfl ?_; refine xp (n_cv rfl underlying3 underlying115 rfl kH (by omega)) rfl ?_; refine xm rfl rfl ?_; refine xp (v_inv rfl rfl (inv_wrap (by omega))) rfl ?_; refine xp (v_cv rfl underlying3 underlying115 rfl (inv16 (by omega))) rfl ?_; refine xp (n_ne rfl rfl rfl) rfl ?_; refine WO_nil (sq_n (hK10 _ _ ?_))
    refine W.keep [0,4,72] rfl ?_; refine W_cond rfl (fun hc1 => ?_) (fun hc1 => ?_)
    · replace hc1 := of_decide_eq_true hc1; simp only [Nat.add_zero] at hc1 c0
      refine W_seq fun K11 hK11 => ?_; refine W_region ?_; refine xm rfl rfl ?_; refine xm rfl rfl ?_; refine xn rfl rfl ?_; refine xp (v_fa (q := 2) rfl underlying146 rfl rfl sizeOf2 rfl) rfl ?_; refine xv (ld rfl rfl isAgg2) rfl ?_; refine xp (v_mi rfl underlying168 rfl rfl) rfl ?_; refine xn rfl rfl ?_; refine xp (v_fa (q := 1048) rfl underlying146 rfl rfl sizeOf47 rfl) rfl ?_
      refine wst rfl rfl rfl sizeOf47 rfl rfl rfl ?_; refine WO_nil (sq_n (hK11 _ _ ?_)); refine W.keep [0,4] rfl ?_; refine W_ret (sq_r (ret_of (v := _) rfl ?_))
      exact ⟨(FSt.mk (_) (wV 0) (0) yh1 yh2 ywr yrd yfull (_) (_) (_) (_) ystep ysst yfin (_) (.slice tp 0 tc) yhl yhd ycl ycd (x.o + j + 4) (pr2) yY yX yC yG), O, [], rfl, ⟨win, rw_, hX, hC, z1, k1, z2, k2, ⟨tp, tc, rfl, Nat.zero_le _, DatV.nil⟩, ⟨pend, hO, hpl⟩, ol⟩, .inr (.inr ⟨.inr (.inl ⟨_, rfl⟩), (by rw [hR]; exact rinf_fail ((q2 hj4).1 (by omega)) _), by simp only; omega⟩)⟩
    · replace hc1 := of_decide_eq_false hc1; simp only [Nat.add_zero] at hc1 c0
      have q3 := (q2 hj4).2 (by omega); refine W_skip (sq_n (hK9 _ _ ?_)); refine W_seq fun K12 hK12 => ?_; refine W_seq fun K13 hK13 => ?_; refine W_region ?_; refine xm rfl rfl ?_; refine xp (n_eq rfl rfl rfl) rfl ?_; refine WO_nil (sq_n (hK13 _ _ ?_)); refine W_cond rfl (fun hc2 => ?_) (fun hc2 => ?_)
      · replace hc2 := of_decide_eq_true hc2; refine W_seq fun K14 hK14 => ?_; refine W_region ?_; refine xm rfl rfl ?_; refine xm rfl rfl ?_; refine xn rfl rfl ?_; refine xp (v_fa (q := 1037) rfl underlying146 rfl rfl sizeOf142 rfl) rfl ?_; refine wc (e_c rfl rfl rfl call75) rfl rfl rfl (readFlush_spec rw_ hwin) .all ?_; rintro _ _ ⟨rfl, rfl⟩; (try simp only [ap4]); refine xn rfl rfl ?_
        refine xp (v_fa (q := 1049) rfl underlying146 rfl rfl sizeOf22 rfl) rfl ?_; refine wst rfl rfl rfl sizeOf22 rfl rfl rfl ?_; refine WO_nil (sq_n (hK14 _ _ ?_)); refine W.keep [0,4] rfl ?_; refine W_seq fun K15 hK15 => ?_; rw [if_neg (by omega), if_neg (by omega)]; refine W_region ?_; refine xm rfl rfl ?_
        refine wc (e_c rfl rfl rfl call76) rfl rfl rfl (finishBlock_spec (rd := ywr) ((hG5 _ _)) (Nat.le_refl _) hwin) .all ?_; intro _ H2 hfb; (try simp only [ap4]); refine WO_nil (sq_n (hK15 _ _ ?_)); refine W_ret (sq_r (ret_of (v := _) rfl ?_)); have hn0 : x.B.getD j 0 + x.B.getD (j + 1) 0 * 256 = 0 := hc2
        have hR3 : R = rinf x.B kf O (if yfin = true then 1 else 0) ⟨8 * (j + 4), false⟩ := by
          rw [hR, q3.1 (by omega), hn0]; simp [finN]
        have hd3 := DatV.win (hb := x.hb) win (by simpa using hO) hpl rw_; rcases hfb with ⟨rfl, rfl⟩ | ⟨rfl, hrd, rfl⟩ | ⟨rfl, hrd, rfl⟩
        · refine ⟨(FSt.mk (_) (wV 0) (0) yh1 yh2 ywr (ywr) yfull (_) (_) (_) (_) (64) ysst (false) (.nilIface) (flV x.hb ywr yrd) yhl yhd ycl ycd (x.o + j + 4) (pr2) yY yX yC yG), O, pend, rfl, ⟨win, Nat.le_refl _, hX, hC, z1, k1, z2, k2, ⟨_, 32768 - yrd, (by rw [hpl]), by omega, hd3⟩, ⟨[], (by simpa using hO), (Nat.sub_self _).symm⟩, ol⟩, .inl ⟨_, ?_, 8 * (j + 4), j + 4, ⟨(by show x.o + j + 4 = _; omega), (by show _ + 0 = _; omega), hj4, rfl, rfl, hw, hss⟩, rfl, .inl ⟨rfl, by simp, hsc, by omega, kf, ?_, by omega⟩⟩⟩
          · simp only [mu]; rw [if_neg (by simp), if_neg (by simp)]; omega
          · rw [hR3]; rfl
        · have hR4 : R = (O, ⟨8 * (j + 4), false⟩) := by rw [hR3, rinf_end (.inl (by simp))]
          have hal : (ralign ⟨8 * (j + 4), false⟩).at_ / 8 = j + 4 := by show (8 * (j + 4) + 7) / 8 * 8 / 8 = _; omega
          exact ⟨(FSt.mk (_) (wV 0) (0) yh1 yh2 ywr (ywr) yfull (_) (_) (_) (_) (64) ysst (true) (errV x.eof) (flV x.hb ywr yrd) yhl yhd ycl ycd (x.o + j + 4) (pr2) yY yX yC yG), O, pend, rfl, ⟨win, Nat.le_refl _, hX, hC, z1, k1, z2, k2, ⟨_, 32768 - yrd, (by rw [hpl]), by omega, hd3⟩, ⟨[], (by simpa using hO), (Nat.sub_self _).symm⟩, ol⟩, .inr (.inl ⟨rfl, by rw [hR4], by rw [hR4], by rw [hR4, hal]; show x.o + j + 4 = _; omega, by rw [hR4, hal]; omega, rfl⟩)⟩
        · omega
      · replace hc2 := of_decide_eq_false hc2; refine W_skip (sq_n (hK12 _ _ ?_)); refine W.keep [0,4] rfl ?_; refine W_seq fun K16 hK16 => ?_; refine W_region ?_; refine xm rfl rfl ?_; refine xm rfl rfl ?_; refine xn rfl rfl ?_; refine xp (v_fa (q := 1052) rfl underlying146 rfl rfl sizeOf3 rfl) rfl ?_; refine wst rfl rfl rfl sizeOf3 rfl rfl rfl ?_; refine WO_nil (sq_n (hK16 _ _ ?_)); refine W.keep [0] rfl ?_
        refine W_region ?_; refine xm rfl rfl ?_
        refine wc (e_c rfl rfl rfl call77) rfl rfl rfl (copyData_spec (R := R) (Dl := Dl) (O := O) (P := 8 * (j + 4)) (j := j + 4) (m := m) (s := (FSt.mk (_) (wV 0) (0) yh1 yh2 ywr yrd yfull (_) (_) (_) (_) ystep ysst yfin (.nilIface) (.slice tp 0 tc) yhl yhd (x.B.getD (j + 0) 0 + x.B.getD (j + 1) 0 * 2 ^ 8) ycd (x.o + j + 4) (pr2) yY yX yC yG)) hx ⟨win, rw_, hX, hC, z1, k1, z2, k2, ⟨tp, tc, rfl, Nat.zero_le _, DatV.nil⟩, ⟨pend, hO, hpl⟩, ol⟩ ⟨(by show x.o + j + 4 = _; omega), (by show _ + 0 = _; omega), hj4, rfl, rfl, hw, hss⟩ ⟨rfl, (by show x.B.getD j 0 + x.B.getD (j + 1) 0 * 256 ≤ 65535; omega), (by omega), kf, (fun h => by rw [hR, q3.1 h]; rfl), (fun h => by rw [hR]; exact rinf_fail (q3.2 h) _), (by omega)⟩ (by omega)) .all ?_
        rintro _ _ hso; (try simp only [ap4]); refine WO_nil (end_of (v := _) rfl ?_); exact hso
  · rw [hpc, put_buf (by simp; omega)]; refine WO_nil (sq_n ?_); refine WA_k (fuel := 0) [9,10,11,12,13] rfl (by kernel_rfl) ?_; refine ym rfl rfl rfl ?_; refine yp rfl (v_ex rfl rfl rfl) rfl ?_; refine yp rfl (v_ex rfl rfl rfl) rfl ?_; refine yp rfl (v_as rfl rfl) rfl ?_; refine yp rfl (v_as rfl rfl) rfl ?_; refine WK_nil ?_; refine WA_nil (by kernel_rfl) (sq_n (hK3 _ _ ?_)); refine W.keep [0,2,3] rfl ?_
    refine W_seq fun K17 hK17 => ?_; refine W.drop (.cons (.there .here) .all) ?_; refine W_region ?_; refine xm rfl rfl ?_; refine xn rfl rfl ?_; refine xp (v_fa (q := 2) rfl underlying146 rfl rfl sizeOf2 rfl) rfl ?_; refine xv (ld rfl rfl isAgg2) rfl ?_; refine xm rfl rfl ?_; refine xp (v_add rfl rfl rfl rfl) rfl ?_; refine xn rfl rfl ?_; refine xp (v_fa (q := 2) rfl underlying146 rfl rfl sizeOf2 rfl) rfl ?_
    refine wst rfl rfl rfl sizeOf2 rfl rfl rfl ?_; refine WO_nil (sq_n (hK17 _ _ ?_)); refine W.keep [0,3] rfl ?_; refine W_seq fun K18 hK18 => ?_; refine W_seq fun K19 hK19 => ?_; refine W_region ?_; refine xm rfl rfl ?_; refine xp (v_nei rfl rfl (by split <;> rfl)) rfl ?_; refine WO_nil (sq_n (hK19 _ _ ?_)); refine W_cond_t rfl ?_; refine W_seq fun K20 hK20 => ?_; refine W_region ?_; refine xm rfl rfl ?_
    refine xm rfl rfl ?_; refine wc (e_c rfl rfl rfl call74) rfl rfl rfl ((show CallsL Tryz.prog 74 #[if x.S.length = x.o + j then errV x.eof else errV x.uex] _ (fun v H' => v = errV x.uex ∧ H' = _) from by split; exact noEOF_eof ((hG5 _ _).cons _); exact noEOF_uex ((hG5 _ _).cons _))) .all ?_; rintro _ _ ⟨rfl, rfl⟩; (try simp only [ap4]); refine xn rfl rfl ?_
    refine xp (v_fa (q := 1048) rfl underlying146 rfl rfl sizeOf47 rfl) rfl ?_; refine wst rfl rfl rfl sizeOf47 rfl rfl rfl ?_; refine WO_nil (sq_n (hK20 _ _ ?_)); refine W.keep [0] rfl ?_; refine W_ret (sq_r (ret_of (v := _) rfl ?_))
    exact ⟨(FSt.mk (_) (wV 0) (0) yh1 yh2 ywr yrd yfull (_) (_) (_) (_) ystep ysst yfin (errV x.uex) (.slice tp 0 tc) yhl yhd ycl ycd (x.S.length) (pr2) yY yX yC yG), O, [], rfl, ⟨win, rw_, hX, hC, z1, k1, z2, k2, ⟨tp, tc, rfl, Nat.zero_le _, DatV.nil⟩, ⟨pend, hO, hpl⟩, ol⟩, .inr (.inr ⟨.inl rfl, (by rw [hR]; exact rinf_fail (q1 (by omega)) _), Nat.le_refl _⟩)⟩
end
end Go.Proofs.YtpbahgddoamhgaaGreatDoor
namespace Go.Proofs.YtpbahgddoamhgaaGreatDoor.Pu

theorem rclen_bad {B : List Nat} {s : RS} (h : s.fail = true) : ∀ n, (rclen B s n).2.fail = true
  | 0 => h
  | n + 1 => by simp only [rclen]; rw [rbits_fail (rclen_bad h n)]; exact rclen_bad h n
theorem rclen_ok {B : List Nat} {P : Nat} : ∀ n, P + 3 * n ≤ 8 * B.length → (rclen B ⟨P, false⟩ n).2 = ⟨P + 3 * n, false⟩
  | 0, _ => rfl
  | n + 1, h => by simp only [rclen]; rw [rclen_ok n (by omega), rbits_eq (by omega)]; simp only [RS.mk.injEq, and_true]; omega
theorem rclen_short {B : List Nat} {P : Nat} (hP : P ≤ 8 * B.length) : ∀ n, 8 * B.length < P + 3 * n → (rclen B ⟨P, false⟩ n).2.fail = true
  | 0, h => by omega
  | n + 1, h => by
    simp only [rclen]
    rcases Nat.lt_or_ge (8 * B.length) (P + 3 * n) with h1 | h1
    · have := rclen_short hP n h1; rw [rbits_fail this]; exact this
    · rw [rclen_ok n h1]; exact rbits_short (by omega) h1
theorem rclen_more {B : List Nat} {s : RS} (n : Nat) : ∀ m, (rclen B s n).2.fail = true → (rclen B s (n + m)).2.fail = true
  | 0, h => h
  | m + 1, h => by
    have := rclen_more n m h; rw [← Nat.add_assoc]; simp only [rclen]; rw [rbits_fail this]; exact this
theorem rclen_step {B : List Nat} {P i : Nat} (h : P + 3 * i + 3 ≤ 8 * B.length) : (rclen B ⟨P, false⟩ (i + 1)).1 = (rclen B ⟨P, false⟩ i).1.set (orderL.getD i 0) (bitsv B (P + 3 * i) 3) := by
  simp only [rclen]; rw [rclen_ok i (by omega), rbits_eq (by omega)]
theorem order_ne0 : ∀ n, n < 19 → ∀ k, k < 19 → n < k → orderL.getD k 0 ≠ orderL.getD n 0 := by decide
theorem order_lt0 : ∀ n, n < 19 → orderL.getD n 0 < 19 := by decide
theorem order_all0 : ∀ i, i < 19 → ∃ t, t < 19 ∧ orderL.getD t 0 = i := by decide
theorem getD_set {α : Type} {l : List α} {i j : Nat} {x d : α} (h : i < l.length) : (l.set i x).getD j d = if i = j then x else l.getD j d := by
  rw [List.getD_eq_getElem?_getD, List.getElem?_set, List.getD_eq_getElem?_getD]; split
  · rename_i e; subst e; simp [h]
  · rfl
theorem rclen_zero {B : List Nat} {s : RS} : ∀ n, n ≤ 19 → ∀ k, n ≤ k → k < 19 → (rclen B s n).1.getD (orderL.getD k 0) 0 = 0
  | 0, _, k, _, h => by
    have := order_lt0 k h; simp only [rclen]; rw [List.getD_eq_getElem?_getD, List.getElem?_replicate, if_pos this]; rfl
  | n + 1, hn, k, h1, h2 => by
    simp only [rclen]
    rw [getD_set (by rw [rclen_length]; exact order_lt0 n (by omega)), if_neg fun e => order_ne0 n (by omega) k h2 (by omega) e.symm]; exact rclen_zero n (by omega) k (by omega) h2
def CI3 (C V : List Nat) (n : Nat) : Prop := C.length = 19 ∧ ∀ t, t < n → C.getD (orderL.getD t 0) 0 = V.getD (orderL.getD t 0) 0
theorem CI3.step {C V : List Nat} {n v : Nat} (h : CI3 C V n) (hV : V.length = 19) (hn : n < 19) : CI3 (C.set (orderL.getD n 0) v) (V.set (orderL.getD n 0) v) (n + 1) := by
  have ho := order_lt0 n hn; refine ⟨by rw [List.length_set]; exact h.1, fun t ht => ?_⟩; rw [getD_set (by rw [h.1]; exact ho), getD_set (by rw [hV]; exact ho)]; split
  · rfl
  · rename_i hne
    refine h.2 t ?_; rcases Nat.lt_or_ge t n with h1 | h1
    · exact h1
    · exact absurd (by rw [show t = n by omega]) hne
theorem CI3.zero {C V : List Nat} {n : Nat} (h : CI3 C V n) (hn : n < 19) (hv : V.getD (orderL.getD n 0) 0 = 0) : CI3 (C.set (orderL.getD n 0) 0) V (n + 1) := by
  have ho := order_lt0 n hn; refine ⟨by rw [List.length_set]; exact h.1, fun t ht => ?_⟩; rw [getD_set (by rw [h.1]; exact ho)]; split
  · rename_i e; rw [← e, hv]
  · rename_i hne
    refine h.2 t ?_; rcases Nat.lt_or_ge t n with h1 | h1
    · exact h1
    · exact absurd (by rw [show t = n by omega]) hne
theorem CI3.all {C V : List Nat} (h : CI3 C V 19) (hV : V.length = 19) : C = V := by
  apply List.ext_getElem (by rw [h.1, hV])
  intro i h1 h2; obtain ⟨t, ht, e⟩ := order_all0 i (by rw [← hV]; exact h2); have := h.2 t ht; rw [e, List.getD_eq_getElem?_getD, List.getElem?_eq_getElem h1, List.getD_eq_getElem?_getD, List.getElem?_eq_getElem h2] at this; exact this

theorem rall_bad {B : List Nat} {c : Ents} {N k : Nat} {all : List Nat} {s : RS} (h : s.fail = true) : (rall B c N k all s).2.fail = true := by
  rw [rall_end (.inl h)]; exact h
theorem rdyn4_bad {nl nd : Nat} {r : List Nat × RS} (h : r.2.fail = true) : (rdyn4 nl nd r).s.fail = true := by unfold rdyn4; rw [if_pos (.inl h)]; rfl
theorem rdyn4_len {nl nd : Nat} {r : List Nat × RS} (h : r.1.length ≠ nl + nd) : (rdyn4 nl nd r).s.fail = true := by unfold rdyn4; rw [if_pos (.inr h)]; rfl
theorem rdyn3_bad {B : List Nat} {nl nd : Nat} {q : List Nat × RS} (h : q.2.fail = true) : (rdyn3 B nl nd q).s.fail = true := by
  unfold rdyn3; exact rdyn4_bad (rall_bad (by split; exact h; rfl))
theorem rdyn2_bad {B : List Nat} {nl nd nc : Nat} {s : RS} (h : s.fail = true) : (rdyn2 B nl nd nc s).s.fail = true := by
  unfold rdyn2; split
  · rfl
  · exact rdyn3_bad (rclen_bad h _)
theorem rdyn_short {B : List Nat} {P : Nat} (hP : P ≤ 8 * B.length) (h : 8 * B.length < P + 14) : (rdyn B ⟨P, false⟩).s.fail = true := by
  unfold rdyn; refine rdyn2_bad ?_; rcases Nat.lt_or_ge (8 * B.length) (P + 5) with h1 | h1
  · have h2 := rbits_short (n := 5) h1 hP; rw [rbits_fail h2, rbits_fail h2]; exact h2
  · rw [rbits_eq h1]; simp only
    rcases Nat.lt_or_ge (8 * B.length) (P + 5 + 5) with h3 | h3
    · have h2 := rbits_short (n := 5) h3 h1; rw [rbits_fail h2]; exact h2
    · rw [rbits_eq h3]; exact rbits_short (by omega) h3
theorem rdyn_head {B : List Nat} {P : Nat} (h : P + 14 ≤ 8 * B.length) : rdyn B ⟨P, false⟩ = rdyn2 B (bitsv B P 5 + 257) (bitsv B (P + 5) 5 + 1) (bitsv B (P + 10) 4 + 4) ⟨P + 14, false⟩ := by
  unfold rdyn; rw [rbits_eq (show P + 5 ≤ _ by omega)]; simp only
  rw [rbits_eq (show P + 5 + 5 ≤ _ by omega)]; simp only
  rw [rbits_eq (show P + 5 + 5 + 4 ≤ _ by omega)]
def repB (s : Nat) : Nat := if s = 18 then 11 else 3
def repW (s : Nat) : Nat := if s = 16 then 2 else if s = 17 then 3 else 7
def repV (s : Nat) (all : List Nat) : Nat := if s = 16 then all.getD (all.length - 1) 0 else 0
section
variable {B C all : List Nat} {N k P s : Nat} (h15 : ∀ x ∈ C, x ≤ 15) (hN : all.length < N)
include h15 hN
theorem rall_miss (hP : P ≤ 8 * B.length) (h : ∀ s, Hit C s (bitsv B P 15) → 8 * B.length < P + C.getD s 0) : (rall B (ents C C.length) N (k + 1) all ⟨P, false⟩).2.fail = true := by
  have hf := sym_miss h15 hP h; rw [rall, if_neg (by simp; exact hN)]; split
  · exact rall_bad hf
  · split
    · exact rall_bad rfl
    · split
      · rw [rbits_fail hf]; exact rall_bad hf
      · split
        · rw [rbits_fail hf]; exact rall_bad hf
        · rw [rbits_fail hf]; exact rall_bad hf
theorem rall_one (h : Hit C s (bitsv B P 15)) (hP : P + C.getD s 0 ≤ 8 * B.length) (hs : s < 16) : rall B (ents C C.length) N (k + 1) all ⟨P, false⟩ = rall B (ents C C.length) N k (all ++ [s]) ⟨P + C.getD s 0, false⟩ := by
  rw [rall, if_neg (by simp; exact hN), sym_hit h15 h hP, if_pos hs]
theorem rall_none (h : Hit C 16 (bitsv B P 15)) (hP : P + C.getD 16 0 ≤ 8 * B.length) (ha : all.length = 0) : (rall B (ents C C.length) N (k + 1) all ⟨P, false⟩).2.fail = true := by
  rw [rall, if_neg (by simp; exact hN), sym_hit h15 h hP, if_neg (by simp), if_pos ⟨rfl, ha⟩]; exact rall_bad rfl
theorem rall_rep (h : Hit C s (bitsv B P 15)) (hP : P + C.getD s 0 ≤ 8 * B.length) (hs : 16 ≤ s) (hs2 : s < 19) (ha : s = 16 → all.length ≠ 0) :
    (8 * B.length < P + C.getD s 0 + repW s → (rall B (ents C C.length) N (k + 1) all ⟨P, false⟩).2.fail = true) ∧
    (P + C.getD s 0 + repW s ≤ 8 * B.length → rall B (ents C C.length) N (k + 1) all ⟨P, false⟩ = rall B (ents C C.length) N k (all ++ List.replicate (repB s + bitsv B (P + C.getD s 0) (repW s)) (repV s all)) ⟨P + C.getD s 0 + repW s, false⟩) := by
  have h16 : s = 16 ∨ s = 17 ∨ s = 18 := by omega
  rw [rall, if_neg (by simp; exact hN), sym_hit h15 h hP, if_neg (by simp; omega), if_neg (fun e => ha e.1 e.2)]; rcases h16 with rfl | rfl | rfl
  · rw [if_pos rfl]; refine ⟨fun hl => rall_bad (rbits_short hl hP), fun hl => ?_⟩; dsimp only; rw [rbits_eq (n := 2) hl]; rfl
  · rw [if_neg (by simp), if_pos rfl]; refine ⟨fun hl => rall_bad (rbits_short hl hP), fun hl => ?_⟩; dsimp only; rw [rbits_eq (n := 3) hl]; rfl
  · rw [if_neg (by simp), if_neg (by simp)]; refine ⟨fun hl => rall_bad (rbits_short hl hP), fun hl => ?_⟩; dsimp only; rw [rbits_eq (n := 7) hl]; rfl
end
theorem rdyn4_end {B : List Nat} {c : Ents} {nl nd k P : Nat} {all : List Nat} (h : all.length = nl + nd) : rdyn4 nl nd (rall B c (nl + nd) k all ⟨P, false⟩) = ⟨all.take nl, all.drop nl, ⟨P, false⟩⟩ := by
  rw [rall_end (.inr (by omega))]; unfold rdyn4; rw [if_neg (by simp [h])]
theorem rdyn4_over {B : List Nat} {c : Ents} {nl nd k P : Nat} {all : List Nat} (h : nl + nd < all.length) : (rdyn4 nl nd (rall B c (nl + nd) k all ⟨P, false⟩)).s.fail = true := by
  rw [rall_end (.inr (by omega))]; exact rdyn4_len (by simp only; omega)
theorem rone_bad {B : List Nat} {s : RS} (h : (rdyn B s).s.fail = true) (O : List Nat) : (rone B 2 O s).2.fail = true := by
  unfold rone; rw [if_neg (by decide), if_neg (by decide), if_pos rfl, if_pos h]; exact h
theorem rblock_bad {B L1 L2 : List Nat} {s : RS} (h : okCode L1 = false ∨ okCode L2 = false) (O : List Nat) : (rblock B L1 L2 O s).2.fail = true := by
  unfold rblock; rw [if_neg (by rintro ⟨h1, h2⟩; rcases h with h | h <;> simp_all)]; rw [rblk_bad rfl]; rfl
theorem rone_code {B : List Nat} {s : RS} {L1 L2 : List Nat} {t : RS} (h : rdyn B s = ⟨L1, L2, t⟩) (ht : t.fail = false) (O : List Nat) : rone B 2 O s = rblock B L1 L2 O t := by
  unfold rone; rw [if_neg (by decide), if_neg (by decide), if_pos rfl, if_neg (by rw [h]; simp [ht]), h]
theorem rblock_code {B L1 L2 : List Nat} {s : RS} (h1 : okCode L1 = true) (h2 : okCode L2 = true) (O : List Nat) : rblock B L1 L2 O s = rblk B (ents L1 L1.length) (ents L2 L2.length) (8 * B.length + 1) O s := by
  unfold rblock; rw [if_pos ⟨h1, h2⟩]
theorem mn_le {L : List Nat} {s : Nat} (h : 1 ≤ L.getD s 0) : mn L L.length ≤ L.getD s 0 := by
  rcases mn_all L s with h2 | h2
  · omega
  · exact h2
end Go.Proofs.YtpbahgddoamhgaaGreatDoor.Pu
namespace Go.Proofs.YtpbahgddoamhgaaGreatDoor
open Go.Proofs.Tryz
open Go Sx Pu
set_option maxRecDepth 10000

theorem LK.apr {D G : Hl} {lv : Value} {tabs : List (List Nat)} (h : LK D lv tabs) : LK (D ++ G) lv tabs := fun hne => by
  obtain ⟨lb, c, lc, ty, r, h1, h2, h3⟩ := h hne; refine ⟨lb, c, lc, ty, _, h1, h2.appl, fun j hj => ?_⟩; obtain ⟨bj, cj, t', r', h4, h5⟩ := h3 j hj; exact ⟨bj, cj, t', _, h4, h5.appl⟩
theorem perm4 {α : Type} {a b c d e : α} {G Y D : List α} : (a :: (G ++ b :: c :: d :: e :: (Y ++ D))).Perm ((a :: b :: c :: d :: e :: ((G ++ Y) ++ D)) ++ []) := by
  rw [List.append_nil]; refine List.Perm.cons _ ?_; have h := (List.perm_append_comm (l₁ := G) (l₂ := [b, c, d, e])).append_right (Y ++ D); simpa [List.append_assoc] using h
theorem datI_at {H : Hl} {b off : Nat} {X L : List Nat} {ty : TypeId} {fz : Nat × Nat} {r : Obj → Hl} (hA : AtH H b (.cells (List.toArray (X.map iV)) ty fz) r) (h : ∀ i (_ : i < L.length), X[off + i]? = some L[i]) : DatI (some ⟨b, off, none⟩) L H := fun _ =>
  ⟨b, off, _, ty, fz, r, rfl, hA, fun i hi => by rw [List.getElem?_map, h i hi]; rfl⟩
theorem ints_at {X : List Nat} {i : Nat} (h : i < X.length) : (X.map iV)[i]? = some (iV (X.getD i 0)) := by
  rw [List.getElem?_map, List.getElem?_eq_getElem h, getD_in h]; rfl
theorem huf_zero {L : List Nat} {ch tabs : _} {mask : Nat} (hT : Huf ch mask tabs L) (h0 : mn L L.length = 0) (s : Nat) : ¬ 1 ≤ L.getD s 0 := by
  intro h; have h2 := hT.len; rcases Nat.lt_or_ge s L.length with h1 | h1
  · have := (mn_spec L L.length).1 h0 s h1; omega
  · rw [List.getD_eq_getElem?_getD, List.getElem?_eq_none h1] at h; simp at h
def DynOut (x : Cx) (P : Nat) (v : Value) (s : FSt) : Prop :=
  s.X.length = 316 ∧ s.C.length = 19 ∧ (s.h1.min = 0 → s.h1.ch = List.replicate 512 0) ∧ s.h1.mask < 2 ^ 32 ∧ (s.h2.min = 0 → s.h2.ch = List.replicate 512 0) ∧ s.h2.mask < 2 ^ 32 ∧ s.i ≤ x.S.length ∧
  ((ErrK x.uex v ∧ ∀ O, (rone x.B 2 O ⟨P, false⟩).2.fail = true) ∨
   (v = .nilIface ∧ ∃ P2 j2 L1 L2 m1 m2, s.nb ≤ 7 ∧ P ≤ P2 ∧ P2 + s.nb = 8 * j2 ∧ j2 ≤ x.B.length ∧ s.i = x.o + j2 ∧ s.b = wV (bitsv x.B P2 s.nb) ∧
     (∀ O, rone x.B 2 O ⟨P, false⟩ = rblk x.B (ents L1 L1.length) (ents L2 L2.length) (8 * x.B.length + 1) O ⟨P2, false⟩) ∧
     TabAt x s (.pointer (some ⟨x.fb, 5, none⟩)) m1 L1 ∧ (1 ≤ L1.getD 256 0 → m1 = L1.getD 256 0) ∧ TabAt x s (.pointer (some ⟨x.fb, 520, none⟩)) m2 L2 ∧ ∀ u, 1 ≤ L2.getD u 0 → m2 ≤ L2.getD u 0))
theorem Src.app {p : Option Addr} {S B : List Nat} {o : Nat} {D : Hl} (h : Src p S B o D) (G : Hl) : Src p S B o (G ++ D) := ⟨h.hd.app G, h.hS, h.hl, h.hB, h.ho⟩
theorem mb_spec {x : Cx} {j P nb : Nat} {yro : Int} {yb0 yb1 yb2 yb3 yerr ytr yhl yhd ypr : Value} {yh1 yh2 : HD} {ywr yrd ystep ysst ycl ycd : Nat} {yfull yfin : Bool} {yY yX yC : List Nat} {yG : Hl} (hx : x.Ok) (hP : P + nb = 8 * j) (hj : j ≤ x.B.length) (hnb : nb ≤ 24) :
    CallsL Tryz.prog 69 #[.pointer (some ⟨x.fb, 0, none⟩)] ((x.fb, fO (fc (.iface 42 (.pointer (some ⟨x.k, 0, none⟩))) x.rBuf (.int .i64 yro) (wV (bitsv x.B P nb)) (uV nb) yh1 yh2 (.pointer (some ⟨x.bb, 0, none⟩)) (.pointer (some ⟨x.cbk, 0, none⟩)) (winV x.hb) (iV ywr) (iV yrd) (.bool yfull) yb0 yb1 yb2 yb3 (fnV ystep) (iV ysst) (.bool yfin) yerr ytr yhl yhd (iV ycl) (iV ycd))) :: (x.k, srcO (.slice x.p x.S.length x.cap) (x.o + j) ypr) :: (x.hb, winO yY) :: (x.bb, intsO yX 148) :: (x.cbk, intsO yC 149) :: (yG ++ x.D)) fun v H' => ∃ ro' pr',
      (j < x.B.length ∧ v = .nilIface ∧ H' = ((x.fb, fO (fc (.iface 42 (.pointer (some ⟨x.k, 0, none⟩))) x.rBuf (.int .i64 ro') (wV (bitsv x.B P (nb + 8))) (uV (nb + 8)) yh1 yh2 (.pointer (some ⟨x.bb, 0, none⟩)) (.pointer (some ⟨x.cbk, 0, none⟩)) (winV x.hb) (iV ywr) (iV yrd) (.bool yfull) yb0 yb1 yb2 yb3 (fnV ystep) (iV ysst) (.bool yfin) yerr ytr yhl yhd (iV ycl) (iV ycd))) :: (x.k, srcO (.slice x.p x.S.length x.cap) (x.o + j + 1) pr') :: (x.hb, winO yY) :: (x.bb, intsO yX 148) :: (x.cbk, intsO yC 149) :: (yG ++ x.D))) ∨
      (j = x.B.length ∧ v = errV x.uex ∧ H' = ((x.fb, fO (fc (.iface 42 (.pointer (some ⟨x.k, 0, none⟩))) x.rBuf (.int .i64 ro') (wV (bitsv x.B P nb)) (uV nb) yh1 yh2 (.pointer (some ⟨x.bb, 0, none⟩)) (.pointer (some ⟨x.cbk, 0, none⟩)) (winV x.hb) (iV ywr) (iV yrd) (.bool yfull) yb0 yb1 yb2 yb3 (fnV ystep) (iV ysst) (.bool yfin) yerr ytr yhl yhd (iV ycl) (iV ycd))) :: (x.k, srcO (.slice x.p x.S.length x.cap) (x.o + j) pr') :: (x.hb, winO yY) :: (x.bb, intsO yX 148) :: (x.cbk, intsO yC 149) :: (yG ++ x.D))) :=
  moreBits_spec (((((hx.gd.app yG).cons _).cons _).cons _)) ((((Src.app hx.src yG).cons _).cons _).cons _) hP hj hnb
theorem take_set {X all : List Nat} {n s : Nat} (h : X.take n = all) (hn : n < X.length) : (X.set n s).take (n + 1) = all ++ [s] := by
  rw [← h, List.take_add_one, List.take_set_of_le (Nat.le_refl n), List.getElem?_set]; simp [hn]
theorem take_getD {X all : List Nat} {n i : Nat} (h : X.take n = all) (hi : i < n) : X.getD i 0 = all.getD i 0 := by
  rw [← h, List.getD_eq_getElem?_getD, List.getD_eq_getElem?_getD, List.getElem?_take, if_pos hi]
theorem repW_le (s : Nat) : repW s ≤ 7 ∧ repB s ≤ 11 ∧ 3 ≤ repB s := by
  unfold repW repB; refine ⟨?_, ?_, ?_⟩
  · split
    · decide
    · split <;> decide
  · split <;> decide
  · split <;> decide
theorem le_app {l : List Nat} {v k : Nat} (h : ∀ a ∈ l, a ≤ 15) (hv : v ≤ 15) : ∀ a ∈ l ++ List.replicate k v, a ≤ 15 := fun a ha => by
  rcases List.mem_append.1 ha with h1 | h1
  · exact h a h1
  · rw [(List.mem_replicate.1 h1).2]; exact hv
theorem le_app1 {l : List Nat} {v : Nat} (h : ∀ a ∈ l, a ≤ 15) (hv : v ≤ 15) : ∀ a ∈ l ++ [v], a ≤ 15 := le_app (k := 1) h hv
theorem fc_hcl3 {r rBuf ro b nb bits cb hist wr rd full b0 b1 b2 b3 step sst fin err tr hl hd cl cd : Value} {h1 h2 : HD} :
    fc r rBuf ro b nb h1 h2 bits cb hist wr rd full b0 b1 b2 b3 step sst fin err tr hl hd cl cd = hcl (r :: rBuf :: ro :: b :: nb :: h1.cells) h2.min h2.ch h2.links h2.mask (ftl bits cb hist wr rd full b0 b1 b2 b3 step sst fin err tr hl hd cl cd) := fc_hcl2
theorem fc_set5 {r rBuf ro b nb bits cb hist wr rd full b0 b1 b2 b3 step sst fin err tr hl hd cl cd : Value} {h1 h2 : HD} {m : Nat} :
    (fc r rBuf ro b nb h1 h2 bits cb hist wr rd full b0 b1 b2 b3 step sst fin err tr hl hd cl cd).set 5 (iV m) = fc r rBuf ro b nb ⟨m, h1.ch, h1.len, h1.links, h1.mask⟩ h2 bits cb hist wr rd full b0 b1 b2 b3 step sst fin err tr hl hd cl cd := rfl
section
variable {x : Cx} {P j : Nat}
set_option maxHeartbeats 4000000 in
theorem readHuffman_spec {s : FSt} (hx : x.Ok) (hi : s.i = x.o + j) (hP : P + s.nb = 8 * j) (hj : j ≤ x.B.length) (hb : s.b = wV (bitsv x.B P s.nb)) (hnb : s.nb ≤ 7) (hX : s.X.length = 316) (hC : s.C.length = 19)
    (z1 : s.h1.min = 0 → s.h1.ch = List.replicate 512 0) (k1 : s.h1.mask < 2 ^ 32) (z2 : s.h2.min = 0 → s.h2.ch = List.replicate 512 0) (k2 : s.h2.mask < 2 ^ 32) :
    CallsL Tryz.prog 73 #[.pointer (some ⟨x.fb, 0, none⟩)] (s.H x) fun v H' => ∃ ro b nb h1 h2 err i pr X C G, H' = (FSt.mk ro b nb h1 h2 s.wr s.rd s.full s.b0 s.b1 s.b2 s.b3 s.step s.sst s.fin err s.tr s.hl s.hd s.cl s.cd i pr s.Y X C G).H x ∧
      DynOut x P v (FSt.mk ro b nb h1 h2 s.wr s.rd s.full s.b0 s.b1 s.b2 s.b3 s.step s.sst s.fin err s.tr s.hl s.hd s.cl s.cd i pr s.Y X C G) := by
  obtain ⟨yro, yb, ynb, yh1, yh2, ywr, yrd, yfull, yb0, yb1, yb2, yb3, ystep, ysst, yfin, yerr, ytr, yhl, yhd, ycl, ycd, yi, ypr, yY, yX, yC, yG⟩ := s; dsimp only at *; subst hi hb; have hlen := hx.src.len; obtain ⟨_, _, _, hg7⟩ := (hx.gd.app yG).g7; have hPle : P ≤ 8 * x.B.length := by omega
  refine CallsL_of func73 rfl ntmps73 rfl ?_; try dsimp only [initE, Nat.zero_add]
  refine W_seq fun K1 hK1 => ?_; refine W_region ?_; refine xa rfl rfl ?_; refine WO_nil (sq_n (hK1 _ _ ?_)); refine W_seq fun K2 hK2 => ?_; refine W_block ?_
  refine W_loop (fun m E H => ∃ nb j ro pr, m = 100 - nb ∧ P + nb = 8 * j ∧ j ≤ x.B.length ∧ nb ≤ 21 ∧ Sub E [(0, .pointer (some ⟨x.fb, 0, none⟩))] ∧ H = ((x.fb, fO (fc (.iface 42 (.pointer (some ⟨x.k, 0, none⟩))) x.rBuf (.int .i64 ro) (wV (bitsv x.B P nb)) (uV nb) yh1 yh2 (.pointer (some ⟨x.bb, 0, none⟩)) (.pointer (some ⟨x.cbk, 0, none⟩)) (winV x.hb) (iV ywr) (iV yrd) (.bool yfull) yb0 yb1 yb2 yb3 (fnV ystep) (iV ysst) (.bool yfin) yerr ytr yhl yhd (iV ycl) (iV ycd))) :: (x.k, srcO (.slice x.p x.S.length x.cap) (x.o + j) pr) :: (x.hb, winO yY) :: (x.bb, intsO yX 148) :: (x.cbk, intsO yC 149) :: (yG ++ x.D))) (m := _) (⟨ynb, j, yro, ypr, rfl, hP, hj, by omega, ⟨rfl, trivial⟩, rfl⟩) ?_
  clear hP hj hnb; rintro m E H ⟨nb, j, ro, pr, rfl, hP, hj, hnb, hE, rfl⟩; refine W.env hE ?_; refine W_seq fun K3 hK3 => ?_; refine W_seq fun K4 hK4 => ?_; refine W_region ?_; refine xm rfl rfl ?_; refine xn rfl rfl ?_; refine xp (v_fa (q := 4) rfl underlying146 rfl rfl sizeOf37 rfl) rfl ?_; refine xv (ld rfl rfl isAgg37) rfl ?_; refine xp (n_lt rfl rfl rfl) rfl ?_; refine WO_nil (sq_n (hK4 _ _ ?_))
  refine W_cond rfl (fun hc0 => ?_) (fun hc0 => ?_)
  · replace hc0 := of_decide_eq_true hc0; refine W_skip (sq_n (hK3 _ _ ?_)); refine W_block ?_; refine W_seq fun K5 hK5 => ?_; refine W_region ?_; refine xm rfl rfl ?_; refine wc (e_c rfl rfl rfl call69) rfl rfl rfl (mb_spec hx hP hj (by omega)) .all ?_; rintro _ _ ⟨ro', pr', ⟨hlt, rfl, rfl⟩ | ⟨hge, rfl, rfl⟩⟩; all_goals (try simp only [ap4])
    · skip
      refine xa rfl rfl ?_; refine WO_nil (sq_n (hK5 _ _ ?_)); refine W_seq fun K6 hK6 => ?_; refine W_region ?_; refine xm rfl rfl ?_; refine xp (v_nen rfl rfl) rfl ?_; refine WO_nil (sq_n (hK6 _ _ ?_)); refine W_cond_f rfl ?_; refine W_skip (bl_n (sq_n (?_))); exact ⟨100 - (nb + 8), by omega, nb + 8, j + 1, _, pr', rfl, by omega, by omega, by omega, ⟨rfl, trivial⟩, rfl⟩
    · skip
      refine xa rfl rfl ?_; refine WO_nil (sq_n (hK5 _ _ ?_)); refine W_seq fun K7 hK7 => ?_; refine W_region ?_; refine xm rfl rfl ?_; refine xp (v_nei rfl rfl rfl) rfl ?_; refine WO_nil (sq_n (hK7 _ _ ?_)); refine W_cond_t rfl ?_; refine W_seq fun K8 hK8 => ?_; refine W_region ?_; refine xm rfl rfl ?_; refine xa rfl rfl ?_; refine WO_nil (sq_n (hK8 _ _ ?_))
      refine W_ret (bl_r (sq_r (bl_r (sq_r (ret_of (v := _) rfl ?_))))); exact ⟨_, _, _, _, _, _, _, _, _, _, _, rfl, hX, hC, z1, k1, z2, k2, (by simp only; omega), .inl ⟨.inl rfl, rone_bad (rdyn_short hPle (by omega))⟩⟩
  · replace hc0 := of_decide_eq_false hc0; have hhd := rdyn_head (B := x.B) (P := P) (by omega); have hb32 : bitsv x.B P nb < 4294967296 := Nat.lt_of_lt_of_le (bitsv_lt _ _ _) (Nat.pow_le_pow_right (by decide) (show nb ≤ 32 by omega)); have hb32b : bitsv x.B (P + 5) (nb - 5) < 4294967296 := Nat.lt_of_lt_of_le (bitsv_lt _ _ _) (Nat.pow_le_pow_right (by decide) (show nb - 5 ≤ 32 by omega))
    have hb32c : bitsv x.B (P + 10) (nb - 10) < 4294967296 := Nat.lt_of_lt_of_le (bitsv_lt _ _ _) (Nat.pow_le_pow_right (by decide) (show nb - 10 ≤ 32 by omega)); have q5 := bitsv_lt x.B P 5; have q5b := bitsv_lt x.B (P + 5) 5; have q4 := bitsv_lt x.B (P + 10) 4; refine W_exit (sq_x (sq_x (bl_x (sq_n (hK2 _ _ ?_))))); refine W.keep [0] rfl ?_; refine W_seq fun K9 hK9 => ?_; refine W_region ?_; refine xm rfl rfl ?_
    refine xn rfl rfl ?_; refine xp (v_fa (q := 3) rfl underlying146 rfl rfl sizeOf29 rfl) rfl ?_; refine xv (ld rfl rfl isAgg29) rfl ?_; refine xp (n_mask 5 rfl rfl rfl kW (by omega) (by decide) (by decide)) rfl ?_; refine xp (n_cv rfl underlying29 underlying3 rfl kI (by omega)) rfl ?_; refine xp (n_add rfl rfl rfl kI (by omega)) rfl ?_; refine xa rfl rfl ?_; refine WO_nil (sq_n (hK9 _ _ ?_))
    refine W.keep [0,4] rfl ?_; refine W_seq fun K10 hK10 => ?_; refine W_seq fun K11 hK11 => ?_; rw [bitsv_mod' (by omega)]; refine W_region ?_; refine xm rfl rfl ?_; refine xp (n_gt rfl rfl rfl) rfl ?_; refine WO_nil (sq_n (hK11 _ _ ?_)); refine W_cond rfl (fun hc2 => ?_) (fun hc2 => ?_)
    · replace hc2 := of_decide_eq_true hc2; refine W_seq fun K12 hK12 => ?_; refine W_region ?_; refine xm rfl rfl ?_; refine xn rfl rfl ?_; refine xp (v_fa (q := 2) rfl underlying146 rfl rfl sizeOf2 rfl) rfl ?_; refine xv (ld rfl rfl isAgg2) rfl ?_; refine xp (v_mi rfl underlying168 rfl rfl) rfl ?_; refine xa rfl rfl ?_; refine WO_nil (sq_n (hK12 _ _ ?_)); refine W.keep [0,4,2] rfl ?_
      refine W_ret (sq_r (ret_of (v := _) rfl ?_)); refine ⟨_, _, _, _, _, _, _, _, _, _, _, rfl, hX, hC, z1, k1, z2, k2, (by simp only; omega), .inl ⟨.inr (.inl ⟨_, rfl⟩), rone_bad ?_⟩⟩; rw [hhd]; unfold rdyn2; rw [if_pos (.inl (by omega))]; rfl
    · replace hc2 := of_decide_eq_false hc2; refine W_skip (sq_n (hK10 _ _ ?_)); refine W_seq fun K13 hK13 => ?_; refine W_region ?_; refine xm rfl rfl ?_; refine xn rfl rfl ?_; refine xp (v_fa (q := 3) rfl underlying146 rfl rfl sizeOf29 rfl) rfl ?_; refine xv (ld rfl rfl isAgg29) rfl ?_; refine xp (n_shr rfl rfl rfl (by decide)) rfl ?_; refine xn rfl rfl ?_
      refine xp (v_fa (q := 3) rfl underlying146 rfl rfl sizeOf29 rfl) rfl ?_; refine wst rfl rfl rfl sizeOf29 rfl rfl rfl ?_; refine WO_nil (sq_n (hK13 _ _ ?_)); refine W.keep [0,4] rfl ?_; refine W_seq fun K14 hK14 => ?_; rw [bitsv_div' (by omega)]; refine W_region ?_; refine xm rfl rfl ?_; refine xn rfl rfl ?_; refine xp (v_fa (q := 3) rfl underlying146 rfl rfl sizeOf29 rfl) rfl ?_
      refine xv (ld rfl rfl isAgg29) rfl ?_; refine xp (n_mask 5 rfl rfl rfl kW (by omega) (by decide) (by decide)) rfl ?_; refine xp (n_cv rfl underlying29 underlying3 rfl kI (by omega)) rfl ?_; refine xp (n_add rfl rfl rfl kI (by omega)) rfl ?_; refine xa rfl rfl ?_; refine WO_nil (sq_n (hK14 _ _ ?_)); refine W.keep [0,4,5] rfl ?_; refine W_seq fun K15 hK15 => ?_; refine W_seq fun K16 hK16 => ?_
      rw [bitsv_mod' (by omega)]; refine W_region ?_; refine xm rfl rfl ?_; refine xp (n_gt rfl rfl rfl) rfl ?_; refine WO_nil (sq_n (hK16 _ _ ?_)); refine W_cond rfl (fun hc3 => ?_) (fun hc3 => ?_)
      · replace hc3 := of_decide_eq_true hc3; refine W_seq fun K17 hK17 => ?_; refine W_region ?_; refine xm rfl rfl ?_; refine xn rfl rfl ?_; refine xp (v_fa (q := 2) rfl underlying146 rfl rfl sizeOf2 rfl) rfl ?_; refine xv (ld rfl rfl isAgg2) rfl ?_; refine xp (v_mi rfl underlying168 rfl rfl) rfl ?_; refine xa rfl rfl ?_; refine WO_nil (sq_n (hK17 _ _ ?_)); refine W.keep [0,4,5,2] rfl ?_
        refine W_ret (sq_r (ret_of (v := _) rfl ?_)); refine ⟨_, _, _, _, _, _, _, _, _, _, _, rfl, hX, hC, z1, k1, z2, k2, (by simp only; omega), .inl ⟨.inr (.inl ⟨_, rfl⟩), rone_bad ?_⟩⟩; rw [hhd]; unfold rdyn2; rw [if_pos (.inr (by omega))]; rfl
      · replace hc3 := of_decide_eq_false hc3; refine W_skip (sq_n (hK15 _ _ ?_)); refine W_seq fun K18 hK18 => ?_; refine W_region ?_; refine xm rfl rfl ?_; refine xn rfl rfl ?_; refine xp (v_fa (q := 3) rfl underlying146 rfl rfl sizeOf29 rfl) rfl ?_; refine xv (ld rfl rfl isAgg29) rfl ?_; refine xp (n_shr rfl rfl rfl (by decide)) rfl ?_; refine xn rfl rfl ?_
        refine xp (v_fa (q := 3) rfl underlying146 rfl rfl sizeOf29 rfl) rfl ?_; refine wst rfl rfl rfl sizeOf29 rfl rfl rfl ?_; refine WO_nil (sq_n (hK18 _ _ ?_)); refine W.keep [0,4,5] rfl ?_; refine W_seq fun K19 hK19 => ?_; rw [bitsv_div' (by omega), show P + 5 + 5 = P + 10 from rfl, show nb - 5 - 5 = nb - 10 by omega]; refine W_region ?_; refine xm rfl rfl ?_; refine xn rfl rfl ?_
        refine xp (v_fa (q := 3) rfl underlying146 rfl rfl sizeOf29 rfl) rfl ?_; refine xv (ld rfl rfl isAgg29) rfl ?_; refine xp (n_mask 4 rfl rfl rfl kW (by omega) (by decide) (by decide)) rfl ?_; refine xp (n_cv rfl underlying29 underlying3 rfl kI (by omega)) rfl ?_; refine xp (n_add rfl rfl rfl kI (by omega)) rfl ?_; refine xa rfl rfl ?_; refine WO_nil (sq_n (hK19 _ _ ?_)); refine W.keep [0,4,5,6] rfl ?_
        refine W_seq fun K20 hK20 => ?_; rw [bitsv_mod' (by omega)]; refine W_region ?_; refine xm rfl rfl ?_; refine xn rfl rfl ?_; refine xp (v_fa (q := 3) rfl underlying146 rfl rfl sizeOf29 rfl) rfl ?_; refine xv (ld rfl rfl isAgg29) rfl ?_; refine xp (n_shr rfl rfl rfl (by decide)) rfl ?_; refine xn rfl rfl ?_; refine xp (v_fa (q := 3) rfl underlying146 rfl rfl sizeOf29 rfl) rfl ?_
        refine wst rfl rfl rfl sizeOf29 rfl rfl rfl ?_; refine WO_nil (sq_n (hK20 _ _ ?_)); refine W.keep [0,4,5,6] rfl ?_; refine W_seq fun K21 hK21 => ?_; rw [bitsv_div' (by omega), show P + 10 + 4 = P + 14 from rfl, show nb - 10 - 4 = nb - 14 by omega]; refine W_region ?_; refine xm rfl rfl ?_; refine xn rfl rfl ?_; refine xp (v_fa (q := 4) rfl underlying146 rfl rfl sizeOf37 rfl) rfl ?_
        refine xv (ld rfl rfl isAgg37) rfl ?_; refine xp (n_sub rfl rfl rfl kU (by omega) (by omega)) rfl ?_; refine xn rfl rfl ?_; refine xp (v_fa (q := 4) rfl underlying146 rfl rfl sizeOf37 rfl) rfl ?_; refine wst rfl rfl rfl sizeOf37 rfl rfl rfl ?_; refine WO_nil (sq_n (hK21 _ _ ?_)); refine W.keep [0,4,5,6] rfl ?_; refine W_seq fun K22 hK22 => ?_; refine W_seq fun K23 hK23 => ?_
        obtain ⟨nl, hnl⟩ : ∃ nl, bitsv x.B P 5 + 257 = nl := ⟨_, rfl⟩; obtain ⟨nd, hnd⟩ : ∃ nd, bitsv x.B (P + 5) 5 + 1 = nd := ⟨_, rfl⟩; obtain ⟨nc, hnc⟩ : ∃ nc, bitsv x.B (P + 10) 4 + 4 = nc := ⟨_, rfl⟩; rw [hnl, hnd, hnc] at hhd ⊢; have hh2 : rdyn x.B ⟨P, false⟩ = rdyn3 x.B nl nd (rclen x.B ⟨P + 14, false⟩ nc) := by rw [hhd]; unfold rdyn2; rw [if_neg (by omega)]
        have hnl1 : 257 ≤ nl ∧ nl ≤ 286 := by omega
        have hnd1 : 1 ≤ nd ∧ nd ≤ 30 := by omega
        have hnc1 : 4 ≤ nc ∧ nc ≤ 19 := by omega
        clear hhd hnl hnd hnc hb32 hb32b hb32c q5 q5b q4; refine W_region ?_; refine xa rfl rfl ?_; refine WO_nil (sq_n (hK23 _ _ ?_)); refine W_block ?_
        refine W_loop (fun m E H => ∃ i nb j ro pr C, i ≤ nc ∧ m = nc - i ∧ P + 14 + 3 * i + nb = 8 * j ∧ j ≤ x.B.length ∧ nb ≤ 7 ∧ CI3 C (rclen x.B ⟨P + 14, false⟩ i).1 i ∧ Sub E [(0, .pointer (some ⟨x.fb, 0, none⟩)), (4, iV nl), (5, iV nd), (6, iV nc), (7, iV i)] ∧ H = ((x.fb, fO (fc (.iface 42 (.pointer (some ⟨x.k, 0, none⟩))) x.rBuf (.int .i64 ro) (wV (bitsv x.B (P + 14 + 3 * i) nb)) (uV nb) yh1 yh2 (.pointer (some ⟨x.bb, 0, none⟩)) (.pointer (some ⟨x.cbk, 0, none⟩)) (winV x.hb) (iV ywr) (iV yrd) (.bool yfull) yb0 yb1 yb2 yb3 (fnV ystep) (iV ysst) (.bool yfin) yerr ytr yhl yhd (iV ycl) (iV ycd))) :: (x.k, srcO (.slice x.p x.S.length x.cap) (x.o + j) pr) :: (x.hb, winO yY) :: (x.bb, intsO yX 148) :: (x.cbk, intsO C 149) :: (yG ++ x.D))) (m := _) (⟨0, nb - 14, j, ro, pr, yC, by omega, rfl, by omega, hj, by omega, ⟨hC, fun t ht => absurd ht (by omega)⟩, ⟨rfl, rfl, rfl, rfl, rfl, trivial⟩, rfl⟩) ?_
        clear hP hj hnb hc0 hC; rintro m E H ⟨i, nb, j, ro, pr, C, hic, rfl, hP, hj, hnb, hCI, hE, rfl⟩; refine W.env hE ?_; have hC := hCI.1; refine W_seq fun K24 hK24 => ?_; refine W_seq fun K25 hK25 => ?_; refine W_region ?_; refine xm rfl rfl ?_; refine xm rfl rfl ?_; refine xp (n_lt rfl rfl rfl) rfl ?_; refine WO_nil (sq_n (hK25 _ _ ?_)); refine W_cond rfl (fun hc4 => ?_) (fun hc4 => ?_)
        · replace hc4 := of_decide_eq_true hc4; refine W_skip (sq_n (hK24 _ _ ?_)); refine W_seq fun K26 hK26 => ?_; refine W_block ?_; refine W_seq fun K27 hK27 => ?_; refine W_block ?_
          refine W_loop (fun m E H => ∃ nb j ro pr, m = 100 - nb ∧ P + 14 + 3 * i + nb = 8 * j ∧ j ≤ x.B.length ∧ nb ≤ 10 ∧ Sub E [(0, .pointer (some ⟨x.fb, 0, none⟩)), (4, iV nl), (5, iV nd), (6, iV nc), (7, iV i)] ∧ H = ((x.fb, fO (fc (.iface 42 (.pointer (some ⟨x.k, 0, none⟩))) x.rBuf (.int .i64 ro) (wV (bitsv x.B (P + 14 + 3 * i) nb)) (uV nb) yh1 yh2 (.pointer (some ⟨x.bb, 0, none⟩)) (.pointer (some ⟨x.cbk, 0, none⟩)) (winV x.hb) (iV ywr) (iV yrd) (.bool yfull) yb0 yb1 yb2 yb3 (fnV ystep) (iV ysst) (.bool yfin) yerr ytr yhl yhd (iV ycl) (iV ycd))) :: (x.k, srcO (.slice x.p x.S.length x.cap) (x.o + j) pr) :: (x.hb, winO yY) :: (x.bb, intsO yX 148) :: (x.cbk, intsO C 149) :: (yG ++ x.D))) (m := _) (⟨nb, j, ro, pr, rfl, hP, hj, by omega, ⟨rfl, rfl, rfl, rfl, rfl, trivial⟩, rfl⟩) ?_
          clear hP hj hnb; rintro m E H ⟨nb, j, ro, pr, rfl, hP, hj, hnb, hE, rfl⟩; refine W.env hE ?_; refine W_seq fun K28 hK28 => ?_; refine W_seq fun K29 hK29 => ?_; refine W_region ?_; refine xm rfl rfl ?_; refine xn rfl rfl ?_; refine xp (v_fa (q := 4) rfl underlying146 rfl rfl sizeOf37 rfl) rfl ?_; refine xv (ld rfl rfl isAgg37) rfl ?_; refine xp (n_lt rfl rfl rfl) rfl ?_; refine WO_nil (sq_n (hK29 _ _ ?_))
          refine W_cond rfl (fun hc5 => ?_) (fun hc5 => ?_)
          · replace hc5 := of_decide_eq_true hc5; refine W_skip (sq_n (hK28 _ _ ?_)); refine W_block ?_; refine W_seq fun K30 hK30 => ?_; refine W_region ?_; refine xm rfl rfl ?_; refine wc (e_c rfl rfl rfl call69) rfl rfl rfl (mb_spec hx hP hj (by omega)) .all ?_; rintro _ _ ⟨ro', pr', ⟨hlt, rfl, rfl⟩ | ⟨hge, rfl, rfl⟩⟩; all_goals (try simp only [ap4])
            · skip
              refine xa rfl rfl ?_; refine WO_nil (sq_n (hK30 _ _ ?_)); refine W_seq fun K31 hK31 => ?_; refine W_region ?_; refine xm rfl rfl ?_; refine xp (v_nen rfl rfl) rfl ?_; refine WO_nil (sq_n (hK31 _ _ ?_)); refine W_cond_f rfl ?_; refine W_skip (bl_n (sq_n (?_))); exact ⟨100 - (nb + 8), by omega, nb + 8, j + 1, _, pr', rfl, by omega, by omega, by omega, ⟨rfl, rfl, rfl, rfl, rfl, trivial⟩, rfl⟩
            · skip
              refine xa rfl rfl ?_; refine WO_nil (sq_n (hK30 _ _ ?_)); refine W_seq fun K32 hK32 => ?_; refine W_region ?_; refine xm rfl rfl ?_; refine xp (v_nei rfl rfl rfl) rfl ?_; refine WO_nil (sq_n (hK32 _ _ ?_)); refine W_cond_t rfl ?_; refine W_seq fun K33 hK33 => ?_; refine W_region ?_; refine xm rfl rfl ?_; refine xa rfl rfl ?_; refine WO_nil (sq_n (hK33 _ _ ?_))
              refine W_ret (bl_r (sq_r (bl_r (sq_r (bl_r (sq_r (sq_r (bl_r (sq_r (ret_of (v := _) rfl ?_))))))))))
              exact ⟨_, _, _, _, _, _, _, _, _, _, _, rfl, hX, hC, z1, k1, z2, k2, (by simp only; omega), .inl ⟨.inl rfl, rone_bad (by rw [hh2]; refine rdyn3_bad ?_; have := rclen_more (B := x.B) (s := ⟨P + 14, false⟩) (i + 1) (nc - (i + 1)) (rclen_short (P := P + 14) (by omega) (i + 1) (by omega)); rwa [Nat.add_sub_cancel' (by omega)] at this)⟩⟩
          · replace hc5 := of_decide_eq_false hc5; have hb32 : bitsv x.B (P + 14 + 3 * i) nb < 4294967296 := Nat.lt_of_lt_of_le (bitsv_lt _ _ _) (Nat.pow_le_pow_right (by decide) (show nb ≤ 32 by omega)); have hoi := order_lt0 i (by omega); refine W_exit (sq_x (sq_x (bl_x (sq_n (hK27 _ _ ?_))))); refine W_seq fun K34 hK34 => ?_; refine W_draw mixed ?_
            refine WA_k (fuel := 1) [0,1,2,3,4,5,6,7,8,9,10,11,12,13,14] rfl (by kernel_rfl) ?_; refine ym rfl rfl rfl ?_; refine yp rfl (v_nil rfl rfl) rfl ?_; refine yp rfl (v_fa (q := 1036) rfl underlying146 rfl rfl sizeOf140 rfl) rfl ?_; refine yv rfl (ld rfl rfl isAgg140) rfl ?_; refine ym rfl rfl rfl ?_; refine yp rfl (v_ixa rfl underlying149 sizeOf3 rfl rfl (by omega)) rfl ?_
            refine yv rfl (v_ld rfl rfl isAgg3 (ints_at (X := orderL) (show i < 19 by omega))) rfl ?_; refine ym rfl rfl rfl ?_; refine yp rfl (v_nil rfl rfl) rfl ?_; refine yp rfl (v_fa (q := 3) rfl underlying146 rfl rfl sizeOf29 rfl) rfl ?_; refine yv rfl (ld rfl rfl isAgg29) rfl ?_; refine yp rfl (n_mask 3 rfl rfl rfl kW (by omega) (by decide) (by decide)) rfl ?_
            refine yp rfl (n_cv rfl underlying29 underlying3 rfl kI (by omega)) rfl ?_; refine yp rfl (v_nil rfl rfl) rfl ?_; refine yp rfl (v_ixa rfl underlying149 sizeOf3 rfl rfl (by omega)) rfl ?_; refine WK_nil ?_; refine WA_one (k := 15) rfl (by kernel_rfl) ?_; refine wst' rfl rfl rfl sizeOf3 rfl (List.map_set (f := iV)).symm (by rw [List.length_map, hC]; exact hoi) rfl rfl ?_; refine WO_nil (sq_n ?_)
            refine WA_nil (by kernel_rfl) (sq_n (hK34 _ _ ?_)); refine W_seq fun K35 hK35 => ?_; rw [bitsv_mod' (by omega)]; refine W_region ?_; refine xm rfl rfl ?_; refine xn rfl rfl ?_; refine xp (v_fa (q := 3) rfl underlying146 rfl rfl sizeOf29 rfl) rfl ?_; refine xv (ld rfl rfl isAgg29) rfl ?_; refine xp (n_shr rfl rfl rfl (by decide)) rfl ?_; refine xn rfl rfl ?_
            refine xp (v_fa (q := 3) rfl underlying146 rfl rfl sizeOf29 rfl) rfl ?_; refine wst rfl rfl rfl sizeOf29 rfl rfl rfl ?_; refine WO_nil (sq_n (hK35 _ _ ?_)); rw [bitsv_div' (by omega)]; refine W_region ?_; refine xm rfl rfl ?_; refine xn rfl rfl ?_; refine xp (v_fa (q := 4) rfl underlying146 rfl rfl sizeOf37 rfl) rfl ?_; refine xv (ld rfl rfl isAgg37) rfl ?_
            refine xp (n_sub rfl rfl rfl kU (by omega) (by omega)) rfl ?_; refine xn rfl rfl ?_; refine xp (v_fa (q := 4) rfl underlying146 rfl rfl sizeOf37 rfl) rfl ?_; refine wst rfl rfl rfl sizeOf37 rfl rfl rfl ?_; refine WO_nil (bl_n (sq_n (hK26 _ _ ?_))); refine W_region ?_; refine xm rfl rfl ?_; refine xp (n_add rfl rfl rfl kI (by omega)) rfl ?_; refine xa rfl rfl ?_; refine WO_nil (sq_n (?_))
            rw [show P + 14 + 3 * i + 3 = P + 14 + 3 * (i + 1) by omega]; exact ⟨_, by omega, i + 1, nb - 3, j, ro, pr, _, by omega, rfl, by omega, hj, by omega, (by rw [rclen_step (by omega)]; exact hCI.step (rclen_length _ _ _) (by omega)), ⟨rfl, rfl, rfl, rfl, rfl, trivial⟩, rfl⟩
        · replace hc4 := of_decide_eq_false hc4; obtain rfl : i = nc := by omega
          refine W_exit (sq_x (sq_x (bl_x (sq_n (hK22 _ _ ?_))))); refine W.keep [0,4,5,6] rfl ?_; refine W_seq fun K36 hK36 => ?_; refine W_seq fun K37 hK37 => ?_; obtain ⟨V, hV⟩ : ∃ V, V = (rclen x.B ⟨P + 14, false⟩ i).1 := ⟨_, rfl⟩; have hVl : V.length = 19 := by rw [hV]; exact rclen_length _ _ _
          have hV7 : ∀ y ∈ V, y ≤ 7 := by rw [hV]; exact rclen_mem i
          have hVz : ∀ k, i ≤ k → k < 19 → V.getD (orderL.getD k 0) 0 = 0 := by rw [hV]; exact rclen_zero i (by omega)
          have hq : rclen x.B ⟨P + 14, false⟩ i = (V, ⟨P + 14 + 3 * i, false⟩) := Prod.ext hV.symm (rclen_ok i (by omega)); rw [hq] at hh2; rw [← hV] at hCI; clear hq hV; refine W_region ?_; refine xm rfl rfl ?_; refine xa rfl rfl ?_; refine WO_nil (sq_n (hK37 _ _ ?_)); refine W_block ?_
          refine W_loop (fun m E H => ∃ t C, i ≤ t ∧ t ≤ 19 ∧ m = 19 - t ∧ CI3 C V t ∧ Sub E [(0, .pointer (some ⟨x.fb, 0, none⟩)), (4, iV nl), (5, iV nd), (9, iV t)] ∧ H = ((x.fb, fO (fc (.iface 42 (.pointer (some ⟨x.k, 0, none⟩))) x.rBuf (.int .i64 ro) (wV (bitsv x.B (P + 14 + 3 * i) nb)) (uV nb) yh1 yh2 (.pointer (some ⟨x.bb, 0, none⟩)) (.pointer (some ⟨x.cbk, 0, none⟩)) (winV x.hb) (iV ywr) (iV yrd) (.bool yfull) yb0 yb1 yb2 yb3 (fnV ystep) (iV ysst) (.bool yfin) yerr ytr yhl yhd (iV ycl) (iV ycd))) :: (x.k, srcO (.slice x.p x.S.length x.cap) (x.o + j) pr) :: (x.hb, winO yY) :: (x.bb, intsO yX 148) :: (x.cbk, intsO C 149) :: (yG ++ x.D))) (m := _) (⟨i, C, Nat.le_refl _, by omega, rfl, hCI, ⟨rfl, rfl, rfl, rfl, trivial⟩, rfl⟩) ?_
          clear hC hCI; rintro m E H ⟨t, C, ht1, ht2, rfl, hCI, hE, rfl⟩; refine W.env hE ?_; have hC := hCI.1; refine W_seq fun K38 hK38 => ?_; refine W_seq fun K39 hK39 => ?_; refine W_region ?_; refine xm rfl rfl ?_; refine xp (n_lt rfl rfl rfl) rfl ?_; refine WO_nil (sq_n (hK39 _ _ ?_)); refine W_cond rfl (fun hc7 => ?_) (fun hc7 => ?_)
          · replace hc7 := of_decide_eq_true hc7; refine W_skip (sq_n (hK38 _ _ ?_)); refine W_seq fun K40 hK40 => ?_; refine W_block ?_; refine W_draw mixed ?_; refine WA_k (fuel := 1) [0,1,2,3,4,5,6,7,8] rfl (by kernel_rfl) ?_; refine ym rfl rfl rfl ?_; refine yp rfl (v_nil rfl rfl) rfl ?_; refine yp rfl (v_fa (q := 1036) rfl underlying146 rfl rfl sizeOf140 rfl) rfl ?_; refine yv rfl (ld rfl rfl isAgg140) rfl ?_
            refine ym rfl rfl rfl ?_; refine yp rfl (v_ixa rfl underlying149 sizeOf3 rfl rfl (by omega)) rfl ?_; refine yv rfl (v_ld rfl rfl isAgg3 (ints_at (X := orderL) (show t < 19 by omega))) rfl ?_; refine yp rfl (v_nil rfl rfl) rfl ?_; refine yp rfl (v_ixa rfl underlying149 sizeOf3 rfl rfl (by have := order_lt0 t (by omega); omega)) rfl ?_; refine WK_nil ?_; refine WA_one (k := 9) rfl (by kernel_rfl) ?_
            refine wst' rfl rfl rfl sizeOf3 rfl (List.map_set (f := iV)).symm (by rw [List.length_map, hC]; exact order_lt0 t (by omega)) rfl rfl ?_; refine WO_nil (sq_n ?_); refine WA_nil (by kernel_rfl) (bl_n (sq_n (hK40 _ _ ?_))); refine W_region ?_; refine xm rfl rfl ?_; refine xp (n_add rfl rfl rfl kI (by omega)) rfl ?_; refine xa rfl rfl ?_; refine WO_nil (sq_n (?_))
            exact ⟨_, by omega, t + 1, _, by omega, by omega, rfl, hCI.zero (by omega) (hVz t ht1 (by omega)), ⟨rfl, rfl, rfl, rfl, trivial⟩, rfl⟩
          · replace hc7 := of_decide_eq_false hc7; obtain rfl : t = 19 := by omega
            obtain rfl := hCI.all hVl; refine W_exit (sq_x (sq_x (bl_x (sq_n (hK36 _ _ ?_))))); refine W.keep [0,4,5] rfl ?_; refine W_seq fun K41 hK41 => ?_; refine W_seq fun K42 hK42 => ?_; refine W_draw mixed ?_; refine WA_k (fuel := 2) [0,1,2,3,4,5,6,7,8] rfl (by kernel_rfl) ?_; refine ym rfl rfl rfl ?_; refine yp rfl (v_nil rfl rfl) rfl ?_
            refine yp rfl (v_fa (q := 5) rfl underlying146 rfl rfl sizeOf138 rfl) rfl ?_; refine ym rfl rfl rfl ?_; refine yp rfl (v_nil rfl rfl) rfl ?_; refine yp rfl (v_fa (q := 1036) rfl underlying146 rfl rfl sizeOf140 rfl) rfl ?_; refine yv rfl (ld rfl rfl isAgg140) rfl ?_; refine yp rfl (v_nil rfl rfl) rfl ?_
            refine yp rfl (v_sla rfl underlying149 sizeOf3 rfl .none .none (.some rfl) (by omega) (by omega) (by omega) (by decide)) rfl ?_; refine WK_nil ?_; refine WA_one (k := 9) rfl (by kernel_rfl) ?_; rw [fc_hcl1, pmv_zero]
            refine wc (e_c rfl rfl rfl call78) rfl rfl rfl (init_m (L := C) (m := 19) (cap := 19) hVl (datI_at (X := C) (off := 0) (AtH.there (h := AtH.there (h := AtH.there (h := AtH.here)))) (fun i h => by rw [Nat.zero_add]; exact List.getElem?_eq_getElem h)) (by omega) (fun y hy => by have := hV7 y hy; omega) rfl yh1.len z1 k1) .all ?_
            rintro _ _ (⟨hno, rfl, lv, mk, hmk, rfl⟩ | ⟨hok, rfl, ch1, lv1, mk1, tabs1, G1, rfl, hcl1, hz1, hlk1, hT1⟩); all_goals (try simp only [ap4])
            · skip
              refine WO_nil (sq_n ?_); refine WA_k (fuel := 0) [10] rfl (by kernel_rfl) ?_; refine yp rfl (v_not rfl rfl rfl) rfl ?_; refine WK_nil ?_; refine WA_nil (by kernel_rfl) (sq_n (hK42 _ _ ?_)); refine W.keep [0,4,5,160] rfl ?_; refine W_cond_t rfl ?_; refine W_seq fun K43 hK43 => ?_
              refine W.drop (H' := ((x.fb, fO (fc (.iface 42 (.pointer (some ⟨x.k, 0, none⟩))) x.rBuf (.int .i64 ro) (wV (bitsv x.B (P + 14 + 3 * i) nb)) (uV nb) (⟨0, List.replicate 512 0, List.length_replicate, lv, mk⟩) yh2 (.pointer (some ⟨x.bb, 0, none⟩)) (.pointer (some ⟨x.cbk, 0, none⟩)) (winV x.hb) (iV ywr) (iV yrd) (.bool yfull) yb0 yb1 yb2 yb3 (fnV ystep) (iV ysst) (.bool yfin) yerr ytr yhl yhd (iV ycl) (iV ycd))) :: (x.k, srcO (.slice x.p x.S.length x.cap) (x.o + j) pr) :: (x.hb, winO yY) :: (x.bb, intsO yX 148) :: (x.cbk, intsO C 149) :: (yG ++ x.D))) .all ?_
              refine W_region ?_; refine xm rfl rfl ?_; refine xn rfl rfl ?_; refine xp (v_fa (q := 2) rfl underlying146 rfl rfl sizeOf2 rfl) rfl ?_; refine xv (ld rfl rfl isAgg2) rfl ?_; refine xp (v_mi rfl underlying168 rfl rfl) rfl ?_; refine xa rfl rfl ?_; refine WO_nil (sq_n (hK43 _ _ ?_)); refine W.keep [0,4,5,2] rfl ?_; refine W_ret (sq_r (ret_of (v := _) rfl ?_))
              exact ⟨_, _, _, _, _, _, _, _, _, _, _, rfl, hX, hC, fun _ => rfl, hmk, z2, k2, (by simp only; omega), .inl ⟨.inr (.inl ⟨_, rfl⟩), rone_bad (by rw [hh2]; unfold rdyn3; rw [if_neg (by rw [hno]; decide)]; exact rdyn4_bad (rall_bad rfl))⟩⟩
            · skip
              refine WO_nil (sq_n ?_); refine WA_k (fuel := 0) [10] rfl (by kernel_rfl) ?_; refine yp rfl (v_not rfl rfl rfl) rfl ?_; refine WK_nil ?_; refine WA_nil (by kernel_rfl) (sq_n (hK42 _ _ ?_)); refine W.keep [0,4,5,160] rfl ?_; refine W_cond_f rfl ?_; refine W_skip (sq_n (hK41 _ _ ?_)); refine W_seq fun K44 hK44 => ?_; refine W_seq fun K45 hK45 => ?_
              refine W.drop (H' := ((x.fb, fO (fc (.iface 42 (.pointer (some ⟨x.k, 0, none⟩))) x.rBuf (.int .i64 ro) (wV (bitsv x.B (P + 14 + 3 * i) nb)) (uV nb) (⟨mn C C.length, ch1, hcl1, lv1, mk1⟩) yh2 (.pointer (some ⟨x.bb, 0, none⟩)) (.pointer (some ⟨x.cbk, 0, none⟩)) (winV x.hb) (iV ywr) (iV yrd) (.bool yfull) yb0 yb1 yb2 yb3 (fnV ystep) (iV ysst) (.bool yfin) yerr ytr yhl yhd (iV ycl) (iV ycd))) :: (x.k, srcO (.slice x.p x.S.length x.cap) (x.o + j) pr) :: (x.hb, winO yY) :: (x.bb, intsO yX 148) :: (x.cbk, intsO C 149) :: ((G1 ++ yG) ++ x.D))) (.of (H2 := []) perm4) ?_
              obtain ⟨Ga, hGa⟩ : ∃ Ga, G1 ++ yG = Ga := ⟨_, rfl⟩; have hlkA : LK Ga lv1 tabs1 := hGa ▸ hlk1.apr; rw [hGa]; have hGD : GD ((x.hb, winO yY) :: (x.bb, intsO yX 148) :: (x.cbk, intsO C 149) :: (Ga ++ x.D)) x.eof x.shb x.uex x.hdr x.dic x.chk := (((hx.gd.app Ga).cons _).cons _).cons _
              have hh3 : rdyn x.B ⟨P, false⟩ = rdyn4 nl nd (rall x.B (ents C C.length) (nl + nd) (nl + nd + 1) [] ⟨P + 14 + 3 * i, false⟩) := by rw [hh2]; unfold rdyn3; rw [if_pos hok, hVl]
              clear hh2 hlk1; refine W_region ?_; refine xm rfl rfl ?_; refine xm rfl rfl ?_; refine xp (n_add rfl rfl rfl kI (by omega)) rfl ?_; refine xa rfl rfl ?_; refine xa rfl rfl ?_; refine WO_nil (sq_n (hK45 _ _ ?_)); refine W.keep [0,4,5,10,11] rfl ?_; refine W_block ?_
              refine W_loop (fun m E H => ∃ Q j nb ro pr all X k, all.length ≤ nl + nd ∧ m = nl + nd - all.length ∧ P ≤ Q ∧ Q + nb = 8 * j ∧ j ≤ x.B.length ∧ nb ≤ 7 ∧ X.length = 316 ∧ X.take all.length = all ∧ (∀ a ∈ all, a ≤ 15) ∧ rdyn x.B ⟨P, false⟩ = rdyn4 nl nd (rall x.B (ents C C.length) (nl + nd) k all ⟨Q, false⟩) ∧ nl + nd < k + all.length ∧ Sub E [(0, .pointer (some ⟨x.fb, 0, none⟩)), (4, iV nl), (5, iV nd), (10, iV all.length), (11, iV (nl + nd))] ∧ H = ((x.fb, fO (fc (.iface 42 (.pointer (some ⟨x.k, 0, none⟩))) x.rBuf (.int .i64 ro) (wV (bitsv x.B Q nb)) (uV nb) (⟨mn C C.length, ch1, hcl1, lv1, mk1⟩) yh2 (.pointer (some ⟨x.bb, 0, none⟩)) (.pointer (some ⟨x.cbk, 0, none⟩)) (winV x.hb) (iV ywr) (iV yrd) (.bool yfull) yb0 yb1 yb2 yb3 (fnV ystep) (iV ysst) (.bool yfin) yerr ytr yhl yhd (iV ycl) (iV ycd))) :: (x.k, srcO (.slice x.p x.S.length x.cap) (x.o + j) pr) :: (x.hb, winO yY) :: (x.bb, intsO X 148) :: (x.cbk, intsO C 149) :: (Ga ++ x.D))) (m := _) (⟨P + 14 + 3 * i, j, nb, ro, pr, [], yX, nl + nd + 1, by simp, rfl, by omega, hP, hj, hnb, hX, rfl, by simp, hh3, by simp, ⟨rfl, rfl, rfl, rfl, rfl, trivial⟩, rfl⟩) ?_
              clear hP hj hnb hh3 hX hg7 hGD; rintro m E H ⟨Q, j, nb, ro, pr, all, X, k, hal, rfl, hPQ, hP, hj, hnb, hX, hXa, ha15, hrd, hk, hE, rfl⟩; refine W.env hE ?_; have hGD : GD ((x.hb, winO yY) :: (x.bb, intsO X 148) :: (x.cbk, intsO C 149) :: (Ga ++ x.D)) x.eof x.shb x.uex x.hdr x.dic x.chk := (((hx.gd.app Ga).cons _).cons _).cons _; refine W_seq fun K46 hK46 => ?_; refine W_seq fun K47 hK47 => ?_
              refine W_region ?_; refine xm rfl rfl ?_; refine xm rfl rfl ?_; refine xp (n_lt rfl rfl rfl) rfl ?_; refine WO_nil (sq_n (hK47 _ _ ?_)); refine W_cond rfl (fun hc9 => ?_) (fun hc9 => ?_)
              · replace hc9 := of_decide_eq_true hc9; obtain ⟨k, rfl⟩ : ∃ k2, k = k2 + 1 := ⟨k - 1, by omega⟩; have hC15 : ∀ y ∈ C, y ≤ 15 := fun y hy => by have := hV7 y hy; omega
                refine W_skip (sq_n (hK46 _ _ ?_)); refine W_block ?_; refine W_seq fun K48 hK48 => ?_; refine W_region ?_; refine xm rfl rfl ?_; refine xm rfl rfl ?_; refine xn rfl rfl ?_; refine xp (v_fa (q := 5) rfl underlying146 rfl rfl sizeOf138 rfl) rfl ?_
                refine wc (e_c rfl rfl rfl call79) rfl rfl rfl (huffSym_spec (k := x.k) (cap := x.cap) (o := x.o) (hb := x.fb) (q := 5) (min := mn C C.length) (ch := ch1) (tabs := tabs1) (lv := lv1) (mask := mk1) (L := C) hGD ((((Src.app hx.src Ga).cons _).cons _).cons _) hP hj (by omega) hT1 (Nat.le_trans (mn_spec C C.length).2.2 (mx_le hC15 _)) (fun s hs => Nat.pos_of_ne_zero fun h0 => absurd (hs.elim (fun h => h.2.1) id) (huf_zero hT1 h0 s)) (((hlkA.apr.cons _).cons _).cons _) (fun ro ob => hmat_of AtH.here rfl hcl1)) .all ?_
                rintro _ _ ⟨ro', pr', j', nb', ⟨s, hs1, hs2, rfl, hPj, hj', hnbr, rfl⟩ | ⟨hbad, hj', e, e', b', hek, rfl, rfl⟩⟩; all_goals (try simp only [ap4])
                · skip
                  refine xm rfl rfl ?_; refine xp (v_ex rfl rfl rfl) rfl ?_; refine xp (v_ex rfl rfl rfl) rfl ?_; refine xa rfl rfl ?_; refine xa rfl rfl ?_; refine WO_nil (sq_n (hK48 _ _ ?_)); refine W_seq fun K49 hK49 => ?_; refine W_seq fun K50 hK50 => ?_; refine W_region ?_; refine xm rfl rfl ?_; refine xp (v_nen rfl rfl) rfl ?_; refine WO_nil (sq_n (hK50 _ _ ?_)); refine W_cond_f rfl ?_
                  refine W_skip (sq_n (hK49 _ _ ?_)); refine W_seq fun K51 hK51 => ?_; refine W_seq fun K52 hK52 => ?_; have hml := mn_le hs1.2.1; have hnb7 : nb' ≤ 7 := by omega
                  have hs19 : s < 19 := by have := hs1.1; omega
                  have hpos := hs1.2.1; refine W_region ?_; refine xm rfl rfl ?_; refine xp (n_lt rfl rfl rfl) rfl ?_; refine WO_nil (sq_n (hK52 _ _ ?_)); refine W_cond rfl (fun hc11 => ?_) (fun hc11 => ?_)
                  · replace hc11 := of_decide_eq_true hc11; refine W_seq fun K53 hK53 => ?_; refine W_region ?_; refine xm rfl rfl ?_; refine xn rfl rfl ?_; refine xp (v_fa (q := 1035) rfl underlying146 rfl rfl sizeOf139 rfl) rfl ?_; refine xv (ld rfl rfl isAgg139) rfl ?_; refine xm rfl rfl ?_; refine xm rfl rfl ?_; refine xn rfl rfl ?_; refine xp (v_ixa rfl underlying148 sizeOf3 rfl rfl (by omega)) rfl ?_
                    refine wst' rfl rfl rfl sizeOf3 rfl (List.map_set (f := iV)).symm (by rw [List.length_map]; omega) rfl rfl ?_; refine WO_nil (sq_n (hK53 _ _ ?_)); refine W_seq fun K54 hK54 => ?_; refine W_region ?_; refine xm rfl rfl ?_; refine xp (n_add rfl rfl rfl kI (by omega)) rfl ?_; refine xa rfl rfl ?_; refine WO_nil (sq_n (hK54 _ _ ?_)); refine W_exit (sq_x (bl_x (sq_n (?_)))); first
                    | (have hq : s < 16 := hc11; exact ⟨nl + nd - (all ++ [s]).length, by rw [List.length_append, List.length_singleton]; omega, Q + C.getD s 0, j', nb', _, _, all ++ [s], X.set all.length s, k, by rw [List.length_append, List.length_singleton]; omega, rfl, by omega, hPj, hj', hnb7, by rw [List.length_set]; exact hX, by rw [List.length_append, List.length_singleton]; exact take_set hXa (by omega), le_app1 ha15 (by omega), by rw [hrd, rall_one hC15 hc9 hs1 hs2 hq], by rw [List.length_append, List.length_singleton]; omega, ⟨rfl, rfl, rfl, (by rw [List.length_append, List.length_singleton]; rfl), rfl, trivial⟩, rfl⟩)
                    | (have hq := hc18; have hll : (all ++ List.replicate t (repV s all)).length = all.length + t := (by rw [List.length_append, List.length_replicate]); exact ⟨nl + nd - (all ++ List.replicate t (repV s all)).length, by rw [hll]; omega, Q + C.getD s 0 + repW s, j, nb - repW s, _, _, all ++ List.replicate t (repV s all), X, k, by rw [hll]; omega, rfl, by omega, by omega, hj, by omega, hX, by rw [hll]; exact hXa, le_app ha15 hv15, by rw [hrd, hrs], by rw [hll]; omega, ⟨rfl, rfl, rfl, (by rw [hll]; rfl), rfl, trivial⟩, rfl⟩)
                  · replace hc11 := of_decide_eq_false hc11; refine W_skip (sq_n (hK51 _ _ ?_)); refine W_seq fun K55 hK55 => ?_; refine W_region ?_; refine xa rfl rfl ?_; refine WO_nil (sq_n (hK55 _ _ ?_)); refine W_seq fun K56 hK56 => ?_; refine W_region ?_; refine xa rfl rfl ?_; refine WO_nil (sq_n (hK56 _ _ ?_)); refine W_seq fun K57 hK57 => ?_; refine W_region ?_; refine xa rfl rfl ?_
                    refine WO_nil (sq_n (hK57 _ _ ?_))
                    refine W_seq_mid (fun E H => (s = 16 → all.length ≠ 0) ∧ Sub E [(0, .pointer (some ⟨x.fb, 0, none⟩)), (4, iV nl), (5, iV nd), (10, iV all.length), (11, iV (nl + nd)), (14, iV (repB s)), (15, uV (repW s)), (16, iV (repV s all))] ∧ H = ((x.fb, fO (fc (.iface 42 (.pointer (some ⟨x.k, 0, none⟩))) x.rBuf (.int .i64 (ro')) (wV (bitsv x.B (Q + C.getD s 0) nb')) (uV (nb')) (⟨mn C C.length, ch1, hcl1, lv1, mk1⟩) yh2 (.pointer (some ⟨x.bb, 0, none⟩)) (.pointer (some ⟨x.cbk, 0, none⟩)) (winV x.hb) (iV ywr) (iV yrd) (.bool yfull) yb0 yb1 yb2 yb3 (fnV ystep) (iV ysst) (.bool yfin) yerr ytr yhl yhd (iV ycl) (iV ycd))) :: (x.k, srcO (.slice x.p x.S.length x.cap) (x.o + j') (pr')) :: (x.hb, winO yY) :: (x.bb, intsO X 148) :: (x.cbk, intsO C 149) :: (Ga ++ x.D))) ?_ ?_
                    · skip
                      refine W_seq fun K59 hK59 => ?_; refine W_region ?_; refine xm rfl rfl ?_; refine WO_nil (sq_n (hK59 _ _ ?_)); refine W_block ?_; refine W_seq fun K60 hK60 => ?_; rcases (show s = 16 ∨ s = 17 ∨ s = 18 by omega) with rfl | rfl | rfl
                      · skip
                        refine W_region ?_; refine xp (v_eq rfl rfl rfl (dT (by omega))) rfl ?_; refine xa rfl rfl ?_; refine WO_nil (sq_n (hK60 _ _ ?_)); refine W_cond_t rfl ?_; refine W_seq fun K61 hK61 => ?_; refine W_region ?_; refine xa rfl rfl ?_; refine WO_nil (sq_n (hK61 _ _ ?_)); refine W_seq fun K62 hK62 => ?_; refine W_region ?_; refine xa rfl rfl ?_; refine WO_nil (sq_n (hK62 _ _ ?_))
                        refine W_seq fun K63 hK63 => ?_; refine W_seq fun K64 hK64 => ?_; refine W_region ?_; refine xm rfl rfl ?_; refine xp (n_eq rfl rfl rfl) rfl ?_; refine WO_nil (sq_n (hK64 _ _ ?_)); refine W_cond rfl (fun hc13 => ?_) (fun hc13 => ?_)
                        · replace hc13 := of_decide_eq_true hc13; refine W_seq fun K65 hK65 => ?_; refine W_region ?_; refine xm rfl rfl ?_; refine xn rfl rfl ?_; refine xp (v_fa (q := 2) rfl underlying146 rfl rfl sizeOf2 rfl) rfl ?_; refine xv (ld rfl rfl isAgg2) rfl ?_; refine xp (v_mi rfl underlying168 rfl rfl) rfl ?_; refine xa rfl rfl ?_; refine WO_nil (sq_n (hK65 _ _ ?_))
                          refine W_ret (sq_r (bl_r (sq_r (bl_r (sq_r (bl_r (sq_r (ret_of (v := _) rfl ?_)))))))); refine ⟨_, _, _, _, _, _, _, _, _, _, _, rfl, hX, hC, hz1, hT1.mlt, z2, k2, (by simp only; omega), .inl ⟨.inr (.inl ⟨_, rfl⟩), rone_bad ?_⟩⟩; rw [hrd]; exact rdyn4_bad (rall_none hC15 hc9 hs1 hs2 hc13)
                        · replace hc13 := of_decide_eq_false hc13; refine W_skip (sq_n (hK63 _ _ ?_)); refine W_region ?_; refine xm rfl rfl ?_; refine xn rfl rfl ?_; refine xp (v_fa (q := 1035) rfl underlying146 rfl rfl sizeOf139 rfl) rfl ?_; refine xv (ld rfl rfl isAgg139) rfl ?_; refine xm rfl rfl ?_; refine xp (n_sub rfl rfl rfl kI (by omega) (by omega)) rfl ?_; refine xn rfl rfl ?_
                          refine xp (v_ixa rfl underlying148 sizeOf3 rfl rfl (by omega)) rfl ?_; refine xv (v_ld rfl rfl isAgg3 (ints_at (by omega))) rfl ?_; refine xa rfl rfl ?_; refine WO_nil (bl_n (sq_n (?_))); first
                          | (have hq : ¬ all.length = 0 := hc13
                             rw [take_getD hXa (show all.length - 1 < all.length by omega)]; exact ⟨fun _ => hq, ⟨rfl, rfl, rfl, rfl, rfl, rfl, rfl, rfl, trivial⟩, rfl⟩)
                          | exact ⟨fun h => by omega, ⟨rfl, rfl, rfl, rfl, rfl, rfl, rfl, rfl, trivial⟩, rfl⟩
                      · skip
                        refine W_region ?_; refine xp (v_eq rfl rfl rfl (dF (by omega))) rfl ?_; refine xa rfl rfl ?_; refine WO_nil (sq_n (hK60 _ _ ?_)); refine W_cond_f rfl ?_; refine W_seq fun K66 hK66 => ?_; refine W_region ?_; refine xp (v_eq rfl rfl rfl (dT (by omega))) rfl ?_; refine xa rfl rfl ?_; refine WO_nil (sq_n (hK66 _ _ ?_)); refine W_cond_t rfl ?_; refine W_seq fun K67 hK67 => ?_; refine W_region ?_
                        refine xa rfl rfl ?_; refine WO_nil (sq_n (hK67 _ _ ?_)); refine W_seq fun K68 hK68 => ?_; refine W_region ?_; refine xa rfl rfl ?_; refine WO_nil (sq_n (hK68 _ _ ?_)); refine W_region ?_; refine xa rfl rfl ?_; refine WO_nil (bl_n (sq_n (?_))); first
                        | (have hq : ¬ all.length = 0 := hc13
                           rw [take_getD hXa (show all.length - 1 < all.length by omega)]; exact ⟨fun _ => hq, ⟨rfl, rfl, rfl, rfl, rfl, rfl, rfl, rfl, trivial⟩, rfl⟩)
                        | exact ⟨fun h => by omega, ⟨rfl, rfl, rfl, rfl, rfl, rfl, rfl, rfl, trivial⟩, rfl⟩
                      · skip
                        refine W_region ?_; refine xp (v_eq rfl rfl rfl (dF (by omega))) rfl ?_; refine xa rfl rfl ?_; refine WO_nil (sq_n (hK60 _ _ ?_)); refine W_cond_f rfl ?_; refine W_seq fun K69 hK69 => ?_; refine W_region ?_; refine xp (v_eq rfl rfl rfl (dF (by omega))) rfl ?_; refine xa rfl rfl ?_; refine WO_nil (sq_n (hK69 _ _ ?_)); refine W_cond_f rfl ?_; refine W_seq fun K70 hK70 => ?_; refine W_region ?_
                        refine xp (v_eq rfl rfl rfl (dT (by omega))) rfl ?_; refine xa rfl rfl ?_; refine WO_nil (sq_n (hK70 _ _ ?_)); refine W_cond_t rfl ?_; refine W_seq fun K71 hK71 => ?_; refine W_region ?_; refine xa rfl rfl ?_; refine WO_nil (sq_n (hK71 _ _ ?_)); refine W_seq fun K72 hK72 => ?_; refine W_region ?_; refine xa rfl rfl ?_; refine WO_nil (sq_n (hK72 _ _ ?_)); refine W_region ?_; refine xa rfl rfl ?_
                        refine WO_nil (bl_n (sq_n (?_))); first
                        | (have hq : ¬ all.length = 0 := hc13
                           rw [take_getD hXa (show all.length - 1 < all.length by omega)]; exact ⟨fun _ => hq, ⟨rfl, rfl, rfl, rfl, rfl, rfl, rfl, rfl, trivial⟩, rfl⟩)
                        | exact ⟨fun h => by omega, ⟨rfl, rfl, rfl, rfl, rfl, rfl, rfl, rfl, trivial⟩, rfl⟩
                    · rintro E H ⟨ha16, hE, rfl⟩; refine W.env hE ?_; obtain ⟨hw7, hb11, hb3⟩ := repW_le s; obtain ⟨hrf, hrs⟩ := rall_rep (N := nl + nd) (k := k) hC15 hc9 hs1 hs2 (by omega) hs19 ha16; have hv15 : repV s all ≤ 15 := by unfold repV; split; exact getD_le ha15 _; omega
                      clear hP hj hnb hnbr; refine W_seq fun K73 hK73 => ?_; refine W_block ?_
                      refine W_loop (fun m E H => ∃ nb j ro pr, m = 100 - nb ∧ Q + C.getD s 0 + nb = 8 * j ∧ j ≤ x.B.length ∧ nb ≤ 14 ∧ (nb ≤ 7 ∨ nb < repW s + 8) ∧ Sub E [(0, .pointer (some ⟨x.fb, 0, none⟩)), (4, iV nl), (5, iV nd), (10, iV all.length), (11, iV (nl + nd)), (14, iV (repB s)), (15, uV (repW s)), (16, iV (repV s all))] ∧ H = ((x.fb, fO (fc (.iface 42 (.pointer (some ⟨x.k, 0, none⟩))) x.rBuf (.int .i64 ro) (wV (bitsv x.B (Q + C.getD s 0) nb)) (uV nb) (⟨mn C C.length, ch1, hcl1, lv1, mk1⟩) yh2 (.pointer (some ⟨x.bb, 0, none⟩)) (.pointer (some ⟨x.cbk, 0, none⟩)) (winV x.hb) (iV ywr) (iV yrd) (.bool yfull) yb0 yb1 yb2 yb3 (fnV ystep) (iV ysst) (.bool yfin) yerr ytr yhl yhd (iV ycl) (iV ycd))) :: (x.k, srcO (.slice x.p x.S.length x.cap) (x.o + j) pr) :: (x.hb, winO yY) :: (x.bb, intsO X 148) :: (x.cbk, intsO C 149) :: (Ga ++ x.D))) (m := _) (⟨nb', j', ro', pr', rfl, hPj, hj', by omega, .inl hnb7, ⟨rfl, rfl, rfl, rfl, rfl, rfl, rfl, rfl, trivial⟩, rfl⟩) ?_
                      clear hPj hj' hnb7; rintro m E H ⟨nb, j, ro, pr, rfl, hP, hj, hnb, hnbr, hE, rfl⟩; refine W.env hE ?_; refine W_seq fun K74 hK74 => ?_; refine W_seq fun K75 hK75 => ?_; refine W_region ?_; refine xm rfl rfl ?_; refine xn rfl rfl ?_; refine xp (v_fa (q := 4) rfl underlying146 rfl rfl sizeOf37 rfl) rfl ?_; refine xv (ld rfl rfl isAgg37) rfl ?_; refine xm rfl rfl ?_
                      refine xp (n_lt rfl rfl rfl) rfl ?_; refine WO_nil (sq_n (hK75 _ _ ?_)); refine W_cond rfl (fun hc16 => ?_) (fun hc16 => ?_)
                      · replace hc16 := of_decide_eq_true hc16; refine W_skip (sq_n (hK74 _ _ ?_)); refine W_block ?_; refine W_seq fun K76 hK76 => ?_; refine W_region ?_; refine xm rfl rfl ?_; refine wc (e_c rfl rfl rfl call69) rfl rfl rfl (mb_spec hx hP hj (by omega)) .all ?_; rintro _ _ ⟨ro2, pr2, ⟨hlt, rfl, rfl⟩ | ⟨hge, rfl, rfl⟩⟩; all_goals (try simp only [ap4])
                        · skip
                          refine xa rfl rfl ?_; refine WO_nil (sq_n (hK76 _ _ ?_)); refine W_seq fun K77 hK77 => ?_; refine W_region ?_; refine xm rfl rfl ?_; refine xp (v_nen rfl rfl) rfl ?_; refine WO_nil (sq_n (hK77 _ _ ?_)); refine W_cond_f rfl ?_; refine W_skip (bl_n (sq_n (?_)))
                          exact ⟨100 - (nb + 8), by omega, nb + 8, j + 1, _, pr2, rfl, by omega, by omega, by omega, by omega, ⟨rfl, rfl, rfl, rfl, rfl, rfl, rfl, rfl, trivial⟩, rfl⟩
                        · skip
                          refine xa rfl rfl ?_; refine WO_nil (sq_n (hK76 _ _ ?_)); refine W_seq fun K78 hK78 => ?_; refine W_region ?_; refine xm rfl rfl ?_; refine xp (v_nei rfl rfl rfl) rfl ?_; refine WO_nil (sq_n (hK78 _ _ ?_)); refine W_cond_t rfl ?_; refine W_seq fun K79 hK79 => ?_; refine W_region ?_; refine xm rfl rfl ?_; refine xa rfl rfl ?_; refine WO_nil (sq_n (hK79 _ _ ?_))
                          refine W_ret (bl_r (sq_r (bl_r (sq_r (bl_r (sq_r (bl_r (sq_r (ret_of (v := _) rfl ?_))))))))); exact ⟨_, _, _, _, _, _, _, _, _, _, _, rfl, hX, hC, hz1, hT1.mlt, z2, k2, (by simp only; omega), .inl ⟨.inl rfl, rone_bad (by rw [hrd]; exact rdyn4_bad (hrf (by omega)))⟩⟩
                      · replace hc16 := of_decide_eq_false hc16; have hb32 : bitsv x.B (Q + C.getD s 0) nb < 4294967296 := Nat.lt_of_lt_of_le (bitsv_lt _ _ _) (Nat.pow_le_pow_right (by decide) (show nb ≤ 32 by omega)); have hp1 : 2 ^ repW s ≤ 128 := Nat.pow_le_pow_right (n := 2) (by decide) hw7; have hp0 := Nat.two_pow_pos (repW s); have hbw := bitsv_lt x.B (Q + C.getD s 0) (repW s); replace hrs := hrs (by omega)
                        refine W_exit (sq_x (sq_x (bl_x (sq_n (hK73 _ _ ?_))))); refine W_seq fun K80 hK80 => ?_; refine W_region ?_; refine xm rfl rfl ?_; refine xm rfl rfl ?_; refine xn rfl rfl ?_; refine xp (v_fa (q := 3) rfl underlying146 rfl rfl sizeOf29 rfl) rfl ?_; refine xv (ld rfl rfl isAgg29) rfl ?_; refine xm rfl rfl ?_; refine xp (n_shl rfl rfl rfl kW (by show _ ≤ 32; omega) (by omega)) rfl ?_
                        refine xp (n_sub rfl rfl rfl kW (by omega) (by omega)) rfl ?_; refine xp (n_mask (repW s) rfl rfl rfl kW (by omega) (by omega) (by omega)) rfl ?_; rw [bitsv_mod' (by omega)]; refine xp (n_cv rfl underlying29 underlying3 rfl kI (by omega)) rfl ?_; refine xp (n_add rfl rfl rfl kI (by omega)) rfl ?_; refine xa rfl rfl ?_; refine WO_nil (sq_n (hK80 _ _ ?_)); refine W_seq fun K81 hK81 => ?_
                        obtain ⟨cnt, hcnt⟩ : ∃ cnt, repB s + bitsv x.B (Q + C.getD s 0) (repW s) = cnt := ⟨_, rfl⟩; rw [hcnt] at hrs ⊢; have hc1 : cnt ≤ 139 := by omega
                        refine W_region ?_; refine xm rfl rfl ?_; refine xn rfl rfl ?_; refine xp (v_fa (q := 3) rfl underlying146 rfl rfl sizeOf29 rfl) rfl ?_; refine xv (ld rfl rfl isAgg29) rfl ?_; refine xm rfl rfl ?_; refine xp (n_shr rfl rfl rfl (by show _ ≤ 32; omega)) rfl ?_; refine xn rfl rfl ?_; refine xp (v_fa (q := 3) rfl underlying146 rfl rfl sizeOf29 rfl) rfl ?_
                        refine wst rfl rfl rfl sizeOf29 rfl rfl rfl ?_; refine WO_nil (sq_n (hK81 _ _ ?_)); refine W_seq fun K82 hK82 => ?_; rw [bitsv_div' (by omega)]; refine W_region ?_; refine xm rfl rfl ?_; refine xn rfl rfl ?_; refine xp (v_fa (q := 4) rfl underlying146 rfl rfl sizeOf37 rfl) rfl ?_; refine xv (ld rfl rfl isAgg37) rfl ?_; refine xm rfl rfl ?_
                        refine xp (n_sub rfl rfl rfl kU (by omega) (by omega)) rfl ?_; refine xn rfl rfl ?_; refine xp (v_fa (q := 4) rfl underlying146 rfl rfl sizeOf37 rfl) rfl ?_; refine wst rfl rfl rfl sizeOf37 rfl rfl rfl ?_; refine WO_nil (sq_n (hK82 _ _ ?_)); refine W_seq fun K83 hK83 => ?_; refine W_seq fun K84 hK84 => ?_; refine W_region ?_; refine xm rfl rfl ?_; refine xm rfl rfl ?_
                        refine xp (n_add rfl rfl rfl kI (by omega)) rfl ?_; refine xm rfl rfl ?_; refine xp (n_gt rfl rfl rfl) rfl ?_; refine WO_nil (sq_n (hK84 _ _ ?_)); refine W_cond rfl (fun hc18 => ?_) (fun hc18 => ?_)
                        · replace hc18 := of_decide_eq_true hc18; refine W_seq fun K85 hK85 => ?_; refine W_region ?_; refine xm rfl rfl ?_; refine xn rfl rfl ?_; refine xp (v_fa (q := 2) rfl underlying146 rfl rfl sizeOf2 rfl) rfl ?_; refine xv (ld rfl rfl isAgg2) rfl ?_; refine xp (v_mi rfl underlying168 rfl rfl) rfl ?_; refine xa rfl rfl ?_; refine WO_nil (sq_n (hK85 _ _ ?_))
                          refine W_ret (sq_r (bl_r (sq_r (bl_r (sq_r (ret_of (v := _) rfl ?_)))))); refine ⟨_, _, _, _, _, _, _, _, _, _, _, rfl, hX, hC, hz1, hT1.mlt, z2, k2, (by simp only; omega), .inl ⟨.inr (.inl ⟨_, rfl⟩), rone_bad ?_⟩⟩; rw [hrd, hrs]; exact rdyn4_over (by rw [List.length_append, List.length_replicate]; omega)
                        · replace hc18 := of_decide_eq_false hc18; refine W_skip (sq_n (hK83 _ _ ?_)); refine W_seq fun K86 hK86 => ?_; refine W_region ?_; refine xa rfl rfl ?_; refine WO_nil (sq_n (hK86 _ _ ?_)); refine W_block ?_
                          refine W_loop (fun m E H => ∃ t X, t ≤ cnt ∧ m = cnt - t ∧ X.length = 316 ∧ X.take (all.length + t) = all ++ List.replicate t (repV s all) ∧ Sub E [(0, .pointer (some ⟨x.fb, 0, none⟩)), (4, iV nl), (5, iV nd), (10, iV (all.length + t)), (11, iV (nl + nd)), (14, iV cnt), (16, iV (repV s all)), (18, iV t)] ∧ H = ((x.fb, fO (fc (.iface 42 (.pointer (some ⟨x.k, 0, none⟩))) x.rBuf (.int .i64 ro) (wV (bitsv x.B (Q + C.getD s 0 + repW s) (nb - repW s))) (uV (nb - repW s)) (⟨mn C C.length, ch1, hcl1, lv1, mk1⟩) yh2 (.pointer (some ⟨x.bb, 0, none⟩)) (.pointer (some ⟨x.cbk, 0, none⟩)) (winV x.hb) (iV ywr) (iV yrd) (.bool yfull) yb0 yb1 yb2 yb3 (fnV ystep) (iV ysst) (.bool yfin) yerr ytr yhl yhd (iV ycl) (iV ycd))) :: (x.k, srcO (.slice x.p x.S.length x.cap) (x.o + j) pr) :: (x.hb, winO yY) :: (x.bb, intsO X 148) :: (x.cbk, intsO C 149) :: (Ga ++ x.D))) (m := _) (⟨0, X, by omega, rfl, hX, by simpa using hXa, ⟨rfl, rfl, rfl, rfl, rfl, rfl, rfl, rfl, trivial⟩, rfl⟩) ?_
                          clear hX hXa; rintro m E H ⟨t, X, ht, rfl, hX, hXa, hE, rfl⟩; refine W.env hE ?_; refine W_seq fun K87 hK87 => ?_; refine W_seq fun K88 hK88 => ?_; refine W_region ?_; refine xm rfl rfl ?_; refine xm rfl rfl ?_; refine xp (n_lt rfl rfl rfl) rfl ?_; refine WO_nil (sq_n (hK88 _ _ ?_)); refine W_cond rfl (fun hc19 => ?_) (fun hc19 => ?_)
                          · replace hc19 := of_decide_eq_true hc19; refine W_skip (sq_n (hK87 _ _ ?_)); refine W_seq fun K89 hK89 => ?_; refine W_block ?_; refine W_seq fun K90 hK90 => ?_; refine W_region ?_; refine xm rfl rfl ?_; refine xn rfl rfl ?_; refine xp (v_fa (q := 1035) rfl underlying146 rfl rfl sizeOf139 rfl) rfl ?_; refine xv (ld rfl rfl isAgg139) rfl ?_; refine xm rfl rfl ?_; refine xm rfl rfl ?_
                            refine xn rfl rfl ?_; refine xp (v_ixa rfl underlying148 sizeOf3 rfl rfl (by omega)) rfl ?_; refine wst' rfl rfl rfl sizeOf3 rfl (List.map_set (f := iV)).symm (by rw [List.length_map]; omega) rfl rfl ?_; refine WO_nil (sq_n (hK90 _ _ ?_)); refine W_region ?_; refine xm rfl rfl ?_; refine xp (n_add rfl rfl rfl kI (by omega)) rfl ?_; refine xa rfl rfl ?_
                            refine WO_nil (bl_n (sq_n (hK89 _ _ ?_))); refine W_region ?_; refine xm rfl rfl ?_; refine xp (n_add rfl rfl rfl kI (by omega)) rfl ?_; refine xa rfl rfl ?_; refine WO_nil (sq_n (?_))
                            exact ⟨_, by omega, t + 1, X.set (all.length + t) (repV s all), by omega, rfl, by rw [List.length_set]; exact hX, (by rw [← Nat.add_assoc, take_set hXa (by omega), List.append_assoc, ← List.replicate_succ']), ⟨rfl, rfl, rfl, rfl, rfl, rfl, rfl, rfl, trivial⟩, rfl⟩
                          · replace hc19 := of_decide_eq_false hc19; obtain rfl : t = cnt := by omega
                            refine W_exit (sq_x (sq_x (bl_x (bl_n (sq_n (?_)))))); first
                            | (have hq : s < 16 := hc11; exact ⟨nl + nd - (all ++ [s]).length, by rw [List.length_append, List.length_singleton]; omega, Q + C.getD s 0, j', nb', _, _, all ++ [s], X.set all.length s, k, by rw [List.length_append, List.length_singleton]; omega, rfl, by omega, hPj, hj', hnb7, by rw [List.length_set]; exact hX, by rw [List.length_append, List.length_singleton]; exact take_set hXa (by omega), le_app1 ha15 (by omega), by rw [hrd, rall_one hC15 hc9 hs1 hs2 hq], by rw [List.length_append, List.length_singleton]; omega, ⟨rfl, rfl, rfl, (by rw [List.length_append, List.length_singleton]; rfl), rfl, trivial⟩, rfl⟩)
                            | (have hq := hc18; have hll : (all ++ List.replicate t (repV s all)).length = all.length + t := (by rw [List.length_append, List.length_replicate]); exact ⟨nl + nd - (all ++ List.replicate t (repV s all)).length, by rw [hll]; omega, Q + C.getD s 0 + repW s, j, nb - repW s, _, _, all ++ List.replicate t (repV s all), X, k, by rw [hll]; omega, rfl, by omega, by omega, hj, by omega, hX, by rw [hll]; exact hXa, le_app ha15 hv15, by rw [hrd, hrs], by rw [hll]; omega, ⟨rfl, rfl, rfl, (by rw [hll]; rfl), rfl, trivial⟩, rfl⟩)
                · skip
                  refine xm rfl rfl ?_; refine xp (v_ex rfl rfl rfl) rfl ?_; refine xp (v_ex rfl rfl rfl) rfl ?_; refine xa rfl rfl ?_; refine xa rfl rfl ?_; refine WO_nil (sq_n (hK48 _ _ ?_)); refine W_seq fun K91 hK91 => ?_; refine W_seq fun K92 hK92 => ?_; refine W_region ?_; refine xm rfl rfl ?_; refine xp (v_nei rfl rfl hek.isIf) rfl ?_; refine WO_nil (sq_n (hK92 _ _ ?_)); refine W_cond_t rfl ?_
                  refine W_seq fun K93 hK93 => ?_; refine W_region ?_; refine xm rfl rfl ?_; refine xa rfl rfl ?_; refine WO_nil (sq_n (hK93 _ _ ?_)); refine W_ret (sq_r (bl_r (sq_r (bl_r (sq_r (ret_of (v := _) rfl ?_)))))); refine ⟨_, _, _, _, _, _, _, _, _, _, _, rfl, hX, hC, hz1, hT1.mlt, z2, k2, (by simp only; omega), .inl ⟨hek, rone_bad ?_⟩⟩; rw [hrd]; refine rdyn4_bad (rall_miss hC15 hc9 (by omega) ?_)
                  rcases hbad with h | h
                  · exact h
                  · intro s hs; have := mn_le hs.2.1; omega
              · replace hc9 := of_decide_eq_false hc9; have hal2 : all.length = nl + nd := by omega
                refine W_exit (sq_x (sq_x (bl_x (sq_n (hK44 _ _ ?_))))); refine W.keep [0,4,5] rfl ?_; refine W_seq fun K94 hK94 => ?_; refine W_seq fun K95 hK95 => ?_; have hdy := rdyn4_end (B := x.B) (c := ents C C.length) (k := k) (P := Q) hal2; rw [← hrd] at hdy; have hN : all.length = nl + nd := hal2; have hXi : ∀ i, i < nl + nd → X[i]? = all[i]? := fun i h => by rw [← hXa, List.getElem?_take, if_pos (by omega)]
                obtain ⟨L1, hL1⟩ : ∃ L, all.take nl = L := ⟨_, rfl⟩; obtain ⟨L2, hL2⟩ : ∃ L, all.drop nl = L := ⟨_, rfl⟩; rw [hL1, hL2] at hdy; have hl1 : L1.length = nl := by rw [← hL1, List.length_take]; omega
                have hl2 : L2.length = nl + nd - nl := by rw [← hL2, List.length_drop]; omega
                have hX1 : ∀ i (_ : i < L1.length), X[0 + i]? = some L1[i] := fun i h => by
                  rw [Nat.zero_add, hXi i (by omega), ← List.getElem?_eq_getElem h, ← hL1, List.getElem?_take, if_pos (by omega)]
                have hX2 : ∀ i (_ : i < L2.length), X[nl + i]? = some L2[i] := fun i h => by
                  rw [hXi _ (by omega), ← List.getElem?_eq_getElem h, ← hL2, List.getElem?_drop]
                have h151 : ∀ y ∈ L1, y ≤ 15 := fun y hy => by rw [← hL1] at hy; exact ha15 y (List.mem_of_mem_take hy)
                have h152 : ∀ y ∈ L2, y ≤ 15 := fun y hy => by rw [← hL2] at hy; exact ha15 y (List.mem_of_mem_drop hy)
                have h256 : X.getD 256 0 = L1.getD 256 0 := by
                  have := hX1 256 (by omega); rw [List.getD_eq_getElem?_getD, show 256 = 0 + 256 from rfl, this, List.getD_eq_getElem?_getD, Nat.zero_add, List.getElem?_eq_getElem (by omega)]
                have hbad : okCode L1 = false ∨ okCode L2 = false → ∀ O, (rone x.B 2 O ⟨P, false⟩).2.fail = true := fun h O => by rw [rone_code hdy rfl]; exact rblock_bad h O
                clear hL1 hL2 hrd hXi; refine W_draw mixed ?_; refine WA_k (fuel := 19) [0,1,2,3,4,5,6,7,8,9] rfl (by kernel_rfl) ?_; refine ym rfl rfl rfl ?_; refine yp rfl (v_nil rfl rfl) rfl ?_; refine yp rfl (v_fa (q := 5) rfl underlying146 rfl rfl sizeOf138 rfl) rfl ?_; refine ym rfl rfl rfl ?_; refine yp rfl (v_nil rfl rfl) rfl ?_; refine yp rfl (v_fa (q := 1035) rfl underlying146 rfl rfl sizeOf139 rfl) rfl ?_
                refine yv rfl (ld rfl rfl isAgg139) rfl ?_; refine yp rfl (v_nil rfl rfl) rfl ?_; refine ym rfl rfl rfl ?_; refine yp rfl (v_sla rfl underlying148 sizeOf3 rfl .none (.some rfl) (.some rfl) (by omega) (by omega) (by omega) (by decide)) rfl ?_; refine WK_nil ?_; refine WA_one (k := 10) rfl (by kernel_rfl) ?_; rw [fc_hcl1, pmv_zero]
                refine wc (e_c rfl rfl rfl call78) rfl rfl rfl (init_m (L := L1) (m := nl) (cap := 316) hl1 (datI_at (X := X) (off := 0) (AtH.there (h := AtH.there (h := AtH.here))) hX1) (by omega) h151 rfl hcl1 hz1 hT1.mlt) .all ?_; rintro _ _ (⟨hno, rfl, lv, mk, hmk, rfl⟩ | ⟨hok1, rfl, ch2, lv2, mk2, tabs2, G2, rfl, hcl2, hz2, hlk2, hT2⟩); all_goals (try simp only [ap4])
                · skip
                  refine WO_nil (sq_n ?_); refine WA_one (k := 11) rfl (by kernel_rfl) ?_; refine xp (v_not rfl rfl rfl) rfl ?_; refine WO_nil (sq_n ?_); refine WA_one (k := 12) rfl (by kernel_rfl) ?_; refine xm rfl rfl ?_; refine WO_nil (sq_n ?_); refine WA_k (fuel := 3) [13,14,15,16,17,18,19,20,21,22,23,24,25] rfl (by kernel_rfl) ?_; refine yno rfl rfl ?_; refine yno rfl rfl ?_; refine yno rfl rfl ?_
                  refine yno rfl rfl ?_; refine yno rfl rfl ?_; refine yno rfl rfl ?_; refine yno rfl rfl ?_; refine yno rfl rfl ?_; refine yno rfl rfl ?_; refine yno rfl rfl ?_; refine yno rfl rfl ?_; refine yno rfl rfl ?_; refine yno rfl rfl ?_; refine WK_nil ?_; refine WA_one (k := 26) rfl (by kernel_rfl) ?_; refine xno rfl ?_; refine WO_nil (sq_n ?_); refine WA_k (fuel := 0) [27,28] rfl (by kernel_rfl) ?_
                  refine yno rfl rfl ?_; refine yp rfl (v_pt rfl rfl rfl) rfl ?_; refine WK_nil ?_; refine WA_nil (by kernel_rfl) (sq_n (hK95 _ _ ?_)); refine W.keep [0,310] rfl ?_; refine W_cond_t rfl ?_; refine W_seq fun K96 hK96 => ?_
                  refine W.drop (H' := ((x.fb, fO (fc (.iface 42 (.pointer (some ⟨x.k, 0, none⟩))) x.rBuf (.int .i64 ro) (wV (bitsv x.B Q nb)) (uV nb) (⟨0, List.replicate 512 0, List.length_replicate, lv, mk⟩) yh2 (.pointer (some ⟨x.bb, 0, none⟩)) (.pointer (some ⟨x.cbk, 0, none⟩)) (winV x.hb) (iV ywr) (iV yrd) (.bool yfull) yb0 yb1 yb2 yb3 (fnV ystep) (iV ysst) (.bool yfin) yerr ytr yhl yhd (iV ycl) (iV ycd))) :: (x.k, srcO (.slice x.p x.S.length x.cap) (x.o + j) pr) :: (x.hb, winO yY) :: (x.bb, intsO X 148) :: (x.cbk, intsO C 149) :: (Ga ++ x.D))) .all ?_
                  refine W_region ?_; refine xm rfl rfl ?_; refine xn rfl rfl ?_; refine xp (v_fa (q := 2) rfl underlying146 rfl rfl sizeOf2 rfl) rfl ?_; refine xv (ld rfl rfl isAgg2) rfl ?_; refine xp (v_mi rfl underlying168 rfl rfl) rfl ?_; refine xa rfl rfl ?_; refine WO_nil (sq_n (hK96 _ _ ?_)); refine W.keep [0,2] rfl ?_; refine W_ret (sq_r (ret_of (v := _) rfl ?_))
                  exact ⟨_, _, _, _, _, _, _, _, _, _, _, rfl, hX, hC, fun _ => rfl, hmk, z2, k2, (by simp only; omega), .inl ⟨.inr (.inl ⟨_, rfl⟩), hbad (.inl hno)⟩⟩
                · rw [← fc_hcl1 (h1 := ⟨mn L1 L1.length, ch2, hcl2, lv2, mk2⟩) (h2 := yh2)]; refine WO_nil (sq_n ?_); refine WA_one (k := 11) rfl (by kernel_rfl) ?_; refine xp (v_not rfl rfl rfl) rfl ?_; refine WO_nil (sq_n ?_); refine WA_one (k := 12) rfl (by kernel_rfl) ?_; refine xm rfl rfl ?_; refine WO_nil (sq_n ?_); refine WA_k (fuel := 3) [13,14,15,16,17,18,19,20,21,22,23,24,25] rfl (by kernel_rfl) ?_
                  refine ym rfl rfl rfl ?_; refine yp rfl (v_nil rfl rfl) rfl ?_; refine yp rfl (v_fa (q := 520) rfl underlying146 rfl rfl sizeOf138 rfl) rfl ?_; refine ym rfl rfl rfl ?_; refine yp rfl (v_nil rfl rfl) rfl ?_; refine yp rfl (v_fa (q := 1035) rfl underlying146 rfl rfl sizeOf139 rfl) rfl ?_; refine yv rfl (ld rfl rfl isAgg139) rfl ?_; refine yp rfl (v_nil rfl rfl) rfl ?_; refine ym rfl rfl rfl ?_
                  refine ym rfl rfl rfl ?_; refine ym rfl rfl rfl ?_; refine yp rfl (n_add rfl rfl rfl kI (by omega)) rfl ?_; refine yp rfl (v_sla rfl underlying148 sizeOf3 rfl .none (.some rfl) (.some rfl) (by omega) (by omega) (by omega) (by decide)) rfl ?_; refine WK_nil ?_; refine WA_one (k := 26) rfl (by kernel_rfl) ?_; rw [fc_hcl2, pmv_win (by omega)]
                  refine wc (e_c rfl rfl rfl call78) rfl rfl rfl (init_m (L := L2) (m := nl + nd - nl) (cap := 316 - nl) hl2 ((datI_at (X := X) (off := nl) (AtH.there (h := AtH.there (h := AtH.here))) hX2).app G2) (by omega) h152 (by simp [HD.cells_length]) yh2.len z2 k2) .all ?_; rintro _ _ (⟨hno, rfl, lv, mk, hmk, rfl⟩ | ⟨hok2, rfl, ch3, lv3, mk3, tabs3, G3, rfl, hcl3, hz3, hlk3, hT3⟩)
                  all_goals (try simp only [ap4])
                  · rw [← fc_hcl3 (h1 := ⟨mn L1 L1.length, ch2, hcl2, lv2, mk2⟩) (h2 := ⟨0, List.replicate 512 0, List.length_replicate, lv, mk⟩)]; refine WO_nil (sq_n ?_); refine WA_k (fuel := 0) [27,28] rfl (by kernel_rfl) ?_; refine yp rfl (v_not rfl rfl rfl) rfl ?_; refine yp rfl (v_pf rfl rfl rfl) rfl ?_; refine WK_nil ?_; refine WA_nil (by kernel_rfl) (sq_n (hK95 _ _ ?_)); refine W.keep [0,310] rfl ?_
                    refine W_cond_t rfl ?_; refine W_seq fun K97 hK97 => ?_
                    refine W.drop (H' := ((x.fb, fO (fc (.iface 42 (.pointer (some ⟨x.k, 0, none⟩))) x.rBuf (.int .i64 ro) (wV (bitsv x.B Q nb)) (uV nb) (⟨mn L1 L1.length, ch2, hcl2, lv2, mk2⟩) (⟨0, List.replicate 512 0, List.length_replicate, lv, mk⟩) (.pointer (some ⟨x.bb, 0, none⟩)) (.pointer (some ⟨x.cbk, 0, none⟩)) (winV x.hb) (iV ywr) (iV yrd) (.bool yfull) yb0 yb1 yb2 yb3 (fnV ystep) (iV ysst) (.bool yfin) yerr ytr yhl yhd (iV ycl) (iV ycd))) :: (x.k, srcO (.slice x.p x.S.length x.cap) (x.o + j) pr) :: (x.hb, winO yY) :: (x.bb, intsO X 148) :: (x.cbk, intsO C 149) :: ((G2 ++ Ga) ++ x.D))) (.of (H2 := []) perm4) ?_
                    refine W_region ?_; refine xm rfl rfl ?_; refine xn rfl rfl ?_; refine xp (v_fa (q := 2) rfl underlying146 rfl rfl sizeOf2 rfl) rfl ?_; refine xv (ld rfl rfl isAgg2) rfl ?_; refine xp (v_mi rfl underlying168 rfl rfl) rfl ?_; refine xa rfl rfl ?_; refine WO_nil (sq_n (hK97 _ _ ?_)); refine W.keep [0,2] rfl ?_; refine W_ret (sq_r (ret_of (v := _) rfl ?_))
                    exact ⟨_, _, _, _, _, _, _, _, _, _, _, rfl, hX, hC, hz2, hT2.mlt, fun _ => rfl, hmk, (by simp only; omega), .inl ⟨.inr (.inl ⟨_, rfl⟩), hbad (.inr hno)⟩⟩
                  · rw [← fc_hcl3 (h1 := ⟨mn L1 L1.length, ch2, hcl2, lv2, mk2⟩) (h2 := ⟨mn L2 L2.length, ch3, hcl3, lv3, mk3⟩)]; refine WO_nil (sq_n ?_); refine WA_k (fuel := 0) [27,28] rfl (by kernel_rfl) ?_; refine yp rfl (v_not rfl rfl rfl) rfl ?_; refine yp rfl (v_pf rfl rfl rfl) rfl ?_; refine WK_nil ?_; refine WA_nil (by kernel_rfl) (sq_n (hK95 _ _ ?_)); refine W.keep [0,310] rfl ?_; refine W_cond_f rfl ?_
                    refine W_skip (sq_n (hK94 _ _ ?_))
                    refine W_seq_mid (fun E H => ∃ m1, (1 ≤ L1.getD 256 0 → m1 = L1.getD 256 0) ∧ m1 ≤ 15 ∧ mn L1 L1.length ≤ m1 ∧ Sub E [(0, .pointer (some ⟨x.fb, 0, none⟩))] ∧ H = ((x.fb, fO (fc (.iface 42 (.pointer (some ⟨x.k, 0, none⟩))) x.rBuf (.int .i64 ro) (wV (bitsv x.B Q nb)) (uV nb) (⟨m1, ch2, hcl2, lv2, mk2⟩) (⟨mn L2 L2.length, ch3, hcl3, lv3, mk3⟩) (.pointer (some ⟨x.bb, 0, none⟩)) (.pointer (some ⟨x.cbk, 0, none⟩)) (winV x.hb) (iV ywr) (iV yrd) (.bool yfull) yb0 yb1 yb2 yb3 (fnV ystep) (iV ysst) (.bool yfin) yerr ytr yhl yhd (iV ycl) (iV ycd))) :: (x.k, srcO (.slice x.p x.S.length x.cap) (x.o + j) pr) :: (x.hb, winO yY) :: (x.bb, intsO X 148) :: (x.cbk, intsO C 149) :: (((G3 ++ G2) ++ Ga) ++ x.D))) ?_ ?_
                    · skip
                      refine W_seq fun K99 hK99 => ?_
                      refine W.drop (H' := ((x.fb, fO (fc (.iface 42 (.pointer (some ⟨x.k, 0, none⟩))) x.rBuf (.int .i64 ro) (wV (bitsv x.B Q nb)) (uV nb) (⟨mn L1 L1.length, ch2, hcl2, lv2, mk2⟩) (⟨mn L2 L2.length, ch3, hcl3, lv3, mk3⟩) (.pointer (some ⟨x.bb, 0, none⟩)) (.pointer (some ⟨x.cbk, 0, none⟩)) (winV x.hb) (iV ywr) (iV yrd) (.bool yfull) yb0 yb1 yb2 yb3 (fnV ystep) (iV ysst) (.bool yfin) yerr ytr yhl yhd (iV ycl) (iV ycd))) :: (x.k, srcO (.slice x.p x.S.length x.cap) (x.o + j) pr) :: (x.hb, winO yY) :: (x.bb, intsO X 148) :: (x.cbk, intsO C 149) :: (((G3 ++ G2) ++ Ga) ++ x.D))) (.of (H2 := []) (by rw [← List.append_assoc]; exact perm4)) ?_
                      refine W_draw mixed ?_; refine WA_k (fuel := 0) [0,1,2,3,4,5,6,7,8,9,10,11,12] rfl (by kernel_rfl) ?_; refine ym rfl rfl rfl ?_; refine yp rfl (v_nil rfl rfl) rfl ?_; refine yp rfl (v_fa (q := 5) rfl underlying146 rfl rfl sizeOf138 rfl) rfl ?_; refine yp rfl (v_fa (q := 0) rfl underlying138 rfl rfl sizeOf3 rfl) rfl ?_
                      refine yv rfl (v_ld rfl rfl isAgg3 (v := iV (mn L1 L1.length)) (fc_h1 (k := 0) (by decide))) rfl ?_; refine ym rfl rfl rfl ?_; refine yp rfl (v_nil rfl rfl) rfl ?_; refine yp rfl (v_fa (q := 1035) rfl underlying146 rfl rfl sizeOf139 rfl) rfl ?_; refine yv rfl (ld rfl rfl isAgg139) rfl ?_; refine yp rfl (v_nil rfl rfl) rfl ?_
                      refine yp rfl (v_ixa rfl underlying148 sizeOf3 rfl rfl (by omega)) rfl ?_; refine yv rfl (v_ld rfl rfl isAgg3 (ints_at (by omega))) rfl ?_; refine yp rfl (n_lt rfl rfl rfl) rfl ?_; refine WK_nil ?_; refine WA_nil (by kernel_rfl) (sq_n (hK99 _ _ ?_)); refine W.keep [0,328] rfl ?_; refine W_cond rfl (fun hc21 => ?_) (fun hc21 => ?_)
                      · replace hc21 := of_decide_eq_true hc21; refine W_region ?_; refine xm rfl rfl ?_; refine xm rfl rfl ?_; refine xn rfl rfl ?_; refine xp (v_fa (q := 1035) rfl underlying146 rfl rfl sizeOf139 rfl) rfl ?_; refine xv (ld rfl rfl isAgg139) rfl ?_; refine xn rfl rfl ?_; refine xp (v_ixa rfl underlying148 sizeOf3 rfl rfl (by omega)) rfl ?_; refine xv (v_ld rfl rfl isAgg3 (ints_at (by omega))) rfl ?_
                        refine xn rfl rfl ?_; refine xp (v_fa (q := 5) rfl underlying146 rfl rfl sizeOf138 rfl) rfl ?_; refine xp (v_fa (q := 0) rfl underlying138 rfl rfl sizeOf3 rfl) rfl ?_; refine wst' rfl rfl rfl sizeOf3 rfl fc_set5 (by rw [fc_length]; decide) rfl rfl ?_; refine WO_nil (sq_n (?_)); have hm15 := Nat.le_trans (mn_spec L1 L1.length).2.2 (mx_le h151 _); have hml := mn_le (L := L1) (s := 256)
                        have h5 := getD_le h151 256; first
                        | (have hq : mn L1 L1.length < X.getD 256 0 := hc21; exact ⟨X.getD 256 0, fun _ => h256, by omega, by omega, ⟨rfl, trivial⟩, rfl⟩)
                        | (have hq : ¬ mn L1 L1.length < X.getD 256 0 := hc21; exact ⟨mn L1 L1.length, fun h => by have := hml h; omega, hm15, Nat.le_refl _, ⟨rfl, trivial⟩, rfl⟩)
                      · replace hc21 := of_decide_eq_false hc21; refine W_skip (sq_n (?_)); have hm15 := Nat.le_trans (mn_spec L1 L1.length).2.2 (mx_le h151 _); have hml := mn_le (L := L1) (s := 256); have h5 := getD_le h151 256; first
                        | (have hq : mn L1 L1.length < X.getD 256 0 := hc21; exact ⟨X.getD 256 0, fun _ => h256, by omega, by omega, ⟨rfl, trivial⟩, rfl⟩)
                        | (have hq : ¬ mn L1 L1.length < X.getD 256 0 := hc21; exact ⟨mn L1 L1.length, fun h => by have := hml h; omega, hm15, Nat.le_refl _, ⟨rfl, trivial⟩, rfl⟩)
                    · rintro E H ⟨m1, hm1, hm15, hmn, hE, rfl⟩; refine W.env hE ?_; refine W_seq fun K100 hK100 => ?_; refine W_region ?_; refine xa rfl rfl ?_; refine WO_nil (sq_n (hK100 _ _ ?_)); refine W_ret (ret_of (v := _) rfl ?_)
                      refine ⟨_, _, _, _, _, _, _, _, _, _, _, rfl, hX, hC, fun h => hz2 (by simp only at h; omega), hT2.mlt, hz3, hT3.mlt, (by simp only; omega), .inr ⟨rfl, Q, j, L1, L2, m1, mn L2 L2.length, hnb, hPQ, hP, hj, rfl, rfl, fun O => ?_, ⟨x.fb, 5, ch2, lv2, mk2, tabs2, rfl, hT2, (hlk2.app G3).apr, hm15, fun u hu => ?_, .inl ⟨rfl, rfl, rfl, rfl, rfl, rfl⟩⟩, hm1, ⟨x.fb, 520, ch3, lv3, mk3, tabs3, rfl, hT3, hlk3.apr.apr, Nat.le_trans (mn_spec L2 L2.length).2.2 (mx_le h152 _), fun u hu => ?_, .inr (.inl ⟨rfl, rfl, rfl, rfl, rfl, rfl⟩)⟩, fun u hu => mn_le hu⟩⟩
                      · rw [rone_code hdy rfl, rblock_code hok1 hok2]
                      · rcases Nat.eq_zero_or_pos (mn L1 L1.length) with h0 | h0
                        · exact absurd hu (huf_zero hT2 h0 u)
                        · omega
                      · rcases Nat.eq_zero_or_pos (mn L2 L2.length) with h0 | h0
                        · exact absurd hu (huf_zero hT3 h0 u)
                        · omega
end
end Go.Proofs.YtpbahgddoamhgaaGreatDoor
