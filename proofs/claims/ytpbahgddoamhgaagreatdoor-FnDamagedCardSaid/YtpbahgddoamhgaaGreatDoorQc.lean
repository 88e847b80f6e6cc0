/- Part 3 of 12 of the proof: the executor, the walks and the plain laws, in build order. -/
import Derived.Test.YtpbahgddoamhgaaGreatDoorQb
namespace Go.Proofs.YtpbahgddoamhgaaGreatDoor
open Go.Proofs.Tryz
open Go Sx Pu
set_option maxRecDepth 10000

abbrev fO (c : List Value) : Obj := .cells (List.toArray c) 146 (0, 0)
theorem m_ReadByte (k : Nat) (w : World) : (method (Tryz.prog.types.size + Made.depth) 42 (.pointer (some ⟨k, 0, none⟩)) "ReadByte").run Tryz.prog w = .ok (106, .pointer (some ⟨k, 0, none⟩)) w := by kernel_rfl
/-- the part of the source that is read: what stands behind o bytes -/
structure Src (p : Option Addr) (S B : List Nat) (o : Nat) (D : Hl) : Prop where
  hd : Dat p S D
  hS : ∀ x ∈ S, x < 256
  hl : S.length < 2 ^ 40
  hB : S.drop o = B
  ho : o ≤ S.length
theorem Src.len {p : Option Addr} {S B : List Nat} {o : Nat} {D : Hl} (h : Src p S B o D) : S.length = o + B.length := by
  have := h.ho; rw [← h.hB, List.length_drop]; omega
theorem Src.get {p : Option Addr} {S B : List Nat} {o : Nat} {D : Hl} (h : Src p S B o D) (j : Nat) : S.getD (o + j) 0 = B.getD j 0 := by
  rw [← h.hB]; simp [List.getD_eq_getElem?_getD]
theorem Src.byte {p : Option Addr} {S B : List Nat} {o : Nat} {D : Hl} (h : Src p S B o D) (j : Nat) : B.getD j 0 < 256 := by
  rw [← h.get]; rcases Nat.lt_or_ge (o + j) S.length with h1 | h1
  · rw [List.getD_eq_getElem?_getD, List.getElem?_eq_getElem h1]; exact h.hS _ (List.getElem_mem h1)
  · rw [List.getD_eq_getElem?_getD, List.getElem?_eq_none h1]; decide
theorem Src.cons {p : Option Addr} {S B : List Nat} {o : Nat} {D : Hl} (h : Src p S B o D) (x : Nat × Obj) : Src p S B o (x :: D) := ⟨h.hd.cons x, h.hS, h.hl, h.hB, h.ho⟩

section
variable {p : Option Addr} {cap k fb o : Nat} {S B : List Nat} {D : Hl} {eof shb uex hdr dic chk : Addr} {pr : Value} {xr xrBuf xro xb xnb xbits xcb xhist xwr xrd xfull xb0 xb1 xb2 xb3 xstep xsst xfin xerr xtr xhl xhd xcl xcd : Value} {xh1 xh2 : HD}

theorem moreBits_spec {ro : Int} {P nb j : Nat} (hG : GD D eof shb uex hdr dic chk) (hs : Src p S B o D) (hP : P + nb = 8 * j) (hj : j ≤ B.length) (hnb : nb ≤ 24) :
    CallsL Tryz.prog 69 #[.pointer (some ⟨fb, 0, none⟩)] ((fb, fO (fc (.iface 42 (.pointer (some ⟨k, 0, none⟩))) xrBuf (.int .i64 ro) (wV (bitsv B P nb)) (uV nb) xh1 xh2 xbits xcb xhist xwr xrd xfull xb0 xb1 xb2 xb3 xstep xsst xfin xerr xtr xhl xhd xcl xcd)) :: (k, srcO (.slice p S.length cap) (o + j) pr) :: D) fun v H' =>
      ∃ ro' pr', (j < B.length ∧ v = .nilIface ∧ H' = (fb, fO (fc (.iface 42 (.pointer (some ⟨k, 0, none⟩))) xrBuf (.int .i64 ro') (wV (bitsv B P (nb + 8))) (uV (nb + 8)) xh1 xh2 xbits xcb xhist xwr xrd xfull xb0 xb1 xb2 xb3 xstep xsst xfin xerr xtr xhl xhd xcl xcd)) :: (k, srcO (.slice p S.length cap) (o + j + 1) pr') :: D) ∨
        (j = B.length ∧ v = errV uex ∧ H' = (fb, fO (fc (.iface 42 (.pointer (some ⟨k, 0, none⟩))) xrBuf (.int .i64 ro') (wV (bitsv B P nb)) (uV nb) xh1 xh2 xbits xcb xhist xwr xrd xfull xb0 xb1 xb2 xb3 xstep xsst xfin xerr xtr xhl xhd xcl xcd)) :: (k, srcO (.slice p S.length cap) (o + j) pr') :: D) := by
  have hlen := hs.len; have hby := hs.byte j; have hgt := hs.get j; have hbl := bitsv_lt B P nb; have h24 : 2 ^ nb ≤ 2 ^ 24 := Nat.pow_le_pow_right (by decide) hnb; have hbv : bitsv B P (nb + 8) = bitsv B P nb + B.getD j 0 * 2 ^ nb := by rw [bitsv_add, hP, bitsv_byte B j hby]
  have hmul : B.getD j 0 * 2 ^ nb ≤ 255 * 2 ^ 24 := Nat.mul_le_mul (by omega) h24; refine CallsL_of func69 rfl ntmps69 rfl ?_
  try dsimp only [initE, Nat.zero_add]
  refine W_seq fun K1 hK1 => ?_; refine W_region ?_; refine xa rfl rfl ?_; refine WO_nil (sq_n (hK1 _ _ ?_)); refine W_seq fun K2 hK2 => ?_; refine W_region ?_; refine xm rfl rfl ?_; refine xn rfl rfl ?_; refine xp (v_fa (q := 0) rfl underlying146 rfl rfl sizeOf82 rfl) rfl ?_; refine xv (ld rfl rfl isAgg82) rfl ?_; refine wc (e_i rfl rfl rfl (m_ReadByte k) call106) rfl rfl rfl (readByte_spec (k := k) (cap := cap) hG hs.hd (by have := hs.hl; omega) (by omega)) (.skip .all) ?_; rintro _ _ ⟨pr', ⟨hlt, rfl, rfl⟩ | ⟨hge, rfl, rfl⟩⟩
  all_goals ((try simp only [ap4]))
  · refine xm rfl rfl ?_; refine xp (v_ex rfl rfl rfl) rfl ?_; refine xp (v_ex rfl rfl rfl) rfl ?_; refine xa rfl rfl ?_; refine xa rfl rfl ?_; refine WO_nil (sq_n (hK2 _ _ ?_)); refine W.keep [0,2,3,4] rfl ?_; refine W_seq fun K3 hK3 => ?_; refine W_seq fun K4 hK4 => ?_; refine W_region ?_; refine xm rfl rfl ?_; refine xp (v_nen rfl rfl) rfl ?_; refine WO_nil (sq_n (hK4 _ _ ?_)); refine W_cond_f rfl ?_; refine W_skip (sq_n (hK3 _ _ ?_)); refine W.keep [0,2,3] rfl ?_; refine W_seq fun K5 hK5 => ?_; refine W_region ?_; refine xm rfl rfl ?_; refine xn rfl rfl ?_; refine xp (v_fa (q := 2) rfl underlying146 rfl rfl sizeOf2 rfl) rfl ?_; refine xv (ld rfl rfl isAgg2) rfl ?_; refine xp (v_add rfl rfl rfl rfl) rfl ?_; refine xn rfl rfl ?_; refine xp (v_fa (q := 2) rfl underlying146 rfl rfl sizeOf2 rfl) rfl ?_; refine wst rfl rfl rfl sizeOf2 rfl rfl rfl ?_; refine WO_nil (sq_n (hK5 _ _ ?_))
    refine W.keep [0,2,3] rfl ?_; refine W_seq fun K6 hK6 => ?_; rw [hgt]; refine W_draw mixed ?_; refine WA_k (fuel := 1) [0,1,2,3,4,5,6,7,8,9,10,11,12,13] rfl (by kernel_rfl) ?_; refine ym rfl rfl rfl ?_; refine yp rfl (v_nil rfl rfl) rfl ?_; refine yp rfl (v_fa (q := 3) rfl underlying146 rfl rfl sizeOf29 rfl) rfl ?_; refine yv rfl (ld rfl rfl isAgg29) rfl ?_; refine ym rfl rfl rfl ?_; refine yp rfl (n_cv rfl underlying5 underlying29 rfl kW (by omega)) rfl ?_; refine ym rfl rfl rfl ?_; refine yp rfl (v_nil rfl rfl) rfl ?_; refine yp rfl (v_fa (q := 4) rfl underlying146 rfl rfl sizeOf37 rfl) rfl ?_; refine yv rfl (ld rfl rfl isAgg37) rfl ?_; refine yp rfl (n_shl rfl rfl rfl kW (by show _ ≤ 32; omega) (by omega)) rfl ?_; refine yp rfl (n_oradd rfl rfl rfl kW (by omega) (by omega) hbl) rfl ?_; refine yp rfl (v_nil rfl rfl) rfl ?_
    refine yp rfl (v_fa (q := 3) rfl underlying146 rfl rfl sizeOf29 rfl) rfl ?_; refine WK_nil ?_; refine WA_one (k := 14) rfl (by kernel_rfl) ?_; refine wst rfl rfl rfl sizeOf29 rfl rfl rfl ?_; refine WO_nil (sq_n ?_); refine WA_nil (by kernel_rfl) (sq_n (hK6 _ _ ?_)); refine W.keep [0,2] rfl ?_; refine W_seq fun K7 hK7 => ?_; refine W_region ?_; refine xm rfl rfl ?_; refine xn rfl rfl ?_; refine xp (v_fa (q := 4) rfl underlying146 rfl rfl sizeOf37 rfl) rfl ?_; refine xv (ld rfl rfl isAgg37) rfl ?_; refine xp (n_add rfl rfl rfl kU (by omega)) rfl ?_; refine xn rfl rfl ?_; refine xp (v_fa (q := 4) rfl underlying146 rfl rfl sizeOf37 rfl) rfl ?_; refine wst rfl rfl rfl sizeOf37 rfl rfl rfl ?_; refine WO_nil (sq_n (hK7 _ _ ?_)); refine W.keep [2] rfl ?_; refine W_seq fun K8 hK8 => ?_; refine W_region ?_; refine xa rfl rfl ?_; refine WO_nil (sq_n (hK8 _ _ ?_))
    refine W_ret (ret_of (v := _) rfl ?_); exact ⟨_, _, .inl ⟨by omega, rfl, by rw [hbv]⟩⟩
  · refine xm rfl rfl ?_; refine xp (v_ex rfl rfl rfl) rfl ?_; refine xp (v_ex rfl rfl rfl) rfl ?_; refine xa rfl rfl ?_; refine xa rfl rfl ?_; refine WO_nil (sq_n (hK2 _ _ ?_)); refine W.keep [0,2,3,4] rfl ?_; refine W_seq fun K9 hK9 => ?_; refine W_seq fun K10 hK10 => ?_; refine W_region ?_; refine xm rfl rfl ?_; refine xp (v_nei rfl rfl rfl) rfl ?_; refine WO_nil (sq_n (hK10 _ _ ?_)); refine W_cond_t rfl ?_; refine W_seq fun K11 hK11 => ?_; refine W_region ?_; refine xm rfl rfl ?_; refine wc (e_c rfl rfl rfl call74) rfl rfl rfl (noEOF_eof ((hG.cons _).cons _)) .all ?_; rintro _ _ ⟨rfl, rfl⟩; (try simp only [ap4]); refine xa rfl rfl ?_; refine WO_nil (sq_n (hK11 _ _ ?_)); refine W.keep [0,3,2] rfl ?_; refine W_ret (sq_r (ret_of (v := _) rfl ?_)); exact ⟨_, _, .inr ⟨by omega, rfl, rfl⟩⟩
end
end Go.Proofs.YtpbahgddoamhgaaGreatDoor
namespace Go.Proofs.YtpbahgddoamhgaaGreatDoor.Pu

theorem cpy_get {d : Nat} {O : List Nat} (hd : 0 < d) (hn : d ≤ O.length) : ∀ (k u : Nat), u < d + k → (cpy d k O).getD (O.length - d + u) 0 = O.getD (O.length - d + u % d) 0
  | 0, u, h => by rw [cpy, Nat.mod_eq_of_lt (by omega)]
  | k + 1, u, h => by
    have hl := cpy_length d k O; rw [cpy_succ]; rcases Nat.lt_or_ge u (d + k) with h1 | h1
    · rw [List.getD_eq_getElem?_getD, List.getElem?_append_left (by omega), ← List.getD_eq_getElem?_getD]; exact cpy_get hd hn k u h1
    · have hu : u = d + k := by omega
      subst hu; rw [List.getD_eq_getElem?_getD, List.getElem?_append_right (by omega), show O.length - d + (d + k) - (cpy d k O).length = 0 by omega]; simp only [List.getElem?_cons_zero, Option.getD_some]; rw [hl, show O.length + k - d = O.length - d + k by omega, cpy_get hd hn k k (by omega), Nat.add_mod_left]
theorem cpy_old {d : Nat} {O : List Nat} : ∀ (k i : Nat), i < O.length → (cpy d k O).getD i 0 = O.getD i 0
  | 0, i, h => rfl
  | k + 1, i, h => by
    have hl := cpy_length d k O; rw [cpy_succ, List.getD_eq_getElem?_getD, List.getElem?_append_left (by omega), ← List.getD_eq_getElem?_getD, cpy_old k i h]
theorem ext_getD {a b : List Nat} (hl : a.length = b.length) (h : ∀ i, i < a.length → a.getD i 0 = b.getD i 0) : a = b := by
  apply List.ext_getElem hl; intro i h1 h2; have := h i h1; simpa [List.getD_eq_getElem?_getD, h1, h2] using this
/-- more of a match, as a piece of what is there already, g bytes back -/
theorem cpy_piece {d t g c : Nat} {O ys : List Nat} (hd : 0 < d) (hn : d ≤ O.length) (hg : g % d = 0) (hg0 : 0 < g) (hgt : g ≤ d + t) (hc : c ≤ g) (hy : ys.length = c)
    (h : ∀ i, i < c → ys.getD i 0 = (cpy d t O).getD (O.length + t - g + i) 0) : cpy d (t + c) O = cpy d t O ++ ys := by
  have hl := cpy_length d t O; have hl2 := cpy_length d (t + c) O; have hgd : d ≤ g := Nat.le_of_dvd hg0 (Nat.dvd_of_mod_eq_zero hg); apply ext_getD
  · rw [List.length_append, hl, hl2, hy]; omega
  · intro i hi; rcases Nat.lt_or_ge i (O.length - d) with h0 | h0
    · rw [cpy_old _ _ (by omega), List.getD_eq_getElem?_getD (l := _ ++ _), List.getElem?_append_left (by omega), ← List.getD_eq_getElem?_getD, cpy_old _ _ (by omega)]
    · obtain ⟨u, rfl⟩ : ∃ u, i = O.length - d + u := ⟨i - (O.length - d), by omega⟩; rw [cpy_get hd hn _ _ (by omega)]; rcases Nat.lt_or_ge u (d + t) with h1 | h1
      · rw [List.getD_eq_getElem?_getD (l := _ ++ _), List.getElem?_append_left (by omega), ← List.getD_eq_getElem?_getD, cpy_get hd hn _ _ h1]
      · rw [List.getD_eq_getElem?_getD (l := _ ++ _), List.getElem?_append_right (by omega), ← List.getD_eq_getElem?_getD, h _ (by omega)]; have e : O.length + t - g + (O.length - d + u - (cpy d t O).length) = O.length - d + (u - g) := by omega
        rw [e, cpy_get hd hn _ _ (by omega)]; congr 2; obtain ⟨m, hm⟩ := Nat.dvd_of_mod_eq_zero hg; have : u = u - g + d * m := by omega
        conv => lhs; rw [this, Nat.add_mul_mod_self_left]

/-- the window W, filled up to wr, holds the last of O -/
structure Win (W : List Nat) (wr : Nat) (full : Bool) (O : List Nat) : Prop where
  len : W.length = 32768
  le : wr ≤ 32768
  leO : wr ≤ O.length
  new : ∀ k, k < wr → W.getD k 0 = O.getD (O.length - wr + k) 0
  notFull : full = false → O.length = wr
  isFull : full = true → 32768 + wr ≤ O.length ∧ ∀ k, wr ≤ k → k < 32768 → W.getD k 0 = O.getD (O.length - wr - 32768 + k) 0
def putN (W : List Nat) (q : Nat) (ys : List Nat) : List Nat := W.take q ++ ys ++ W.drop (q + ys.length)
theorem putN_length {W ys : List Nat} {q : Nat} (h : q + ys.length ≤ W.length) : (putN W q ys).length = W.length := by simp [putN]; omega
theorem putN_get {W ys : List Nat} {q : Nat} (h : q + ys.length ≤ W.length) (k : Nat) : (putN W q ys).getD k 0 = if k < q then W.getD k 0 else if k < q + ys.length then ys.getD (k - q) 0 else W.getD k 0 := by
  unfold putN; simp only [List.getD_eq_getElem?_getD]
  split
  · rename_i h1; rw [List.append_assoc, List.getElem?_append_left (by simp; omega), List.getElem?_take]; simp [h1]
  · rename_i h1
    split
    · rename_i h2; rw [List.append_assoc, List.getElem?_append_right (by simp; omega), List.getElem?_append_left (by simp; omega)]; congr 2; simp; omega
    · rename_i h2; rw [List.getElem?_append_right (by simp; omega), List.getElem?_drop]; congr 2; simp; omega
theorem Win.write {W O ys : List Nat} {wr : Nat} {full : Bool} (h : Win W wr full O) (hy : wr + ys.length ≤ 32768) : Win (putN W wr ys) (wr + ys.length) full (O ++ ys) := by
  have hlen := h.len; have hle := h.leO; refine ⟨by rw [putN_length (by omega)]; exact h.len, hy, by simp; omega, fun k hk => ?_, fun hf => by have := h.notFull hf; simp; omega, fun hf => ?_⟩
  · rw [putN_get (by omega)]; simp only [List.length_append]
    split
    · rename_i h1; rw [h.new k h1, List.getD_eq_getElem?_getD (l := O ++ ys), List.getElem?_append_left (by omega), ← List.getD_eq_getElem?_getD]; congr 1; omega
    · rename_i h1; rw [List.getD_eq_getElem?_getD (l := O ++ ys), List.getElem?_append_right (by omega), ← List.getD_eq_getElem?_getD, show O.length + ys.length - (wr + ys.length) + k - O.length = k - wr by omega]
  · obtain ⟨h1, h2⟩ := h.isFull hf; refine ⟨by simp; omega, fun k hk1 hk2 => ?_⟩; rw [putN_get (by omega), if_neg (by omega), if_neg (by omega), h2 k (by omega) hk2]; simp only [List.length_append]; rw [List.getD_eq_getElem?_getD (l := O ++ ys), List.getElem?_append_left (by omega), ← List.getD_eq_getElem?_getD, show O.length + ys.length - (wr + ys.length) - 32768 + k = O.length - wr - 32768 + k by omega]
theorem Win.wrap {W O : List Nat} {full : Bool} (h : Win W 32768 full O) : Win W 0 true O := by
  have := h.leO; refine ⟨h.len, by omega, by omega, fun k hk => by omega, fun h => (by cases h), fun _ => ⟨by omega, fun k _ hk => ?_⟩⟩; rw [h.new k hk, Nat.sub_zero]
theorem Win.init {W : List Nat} (h : W.length = 32768) : Win W 0 false [] := ⟨h, by omega, by simp, fun k hk => by omega, fun _ => rfl, fun h => (by cases h)⟩
/-- the history's size -/
def hsz (wr : Nat) (full : Bool) : Nat := if full = true then 32768 else wr
theorem Win.hsz_iff {W O : List Nat} {wr : Nat} {full : Bool} (h : Win W wr full O) {d : Nat} (hd : d ≤ 32768) : d ≤ hsz wr full ↔ d ≤ O.length := by
  unfold hsz
  cases full
  · have := h.notFull rfl; simp; omega
  · have := (h.isFull rfl).1; simp; omega
theorem piece_get {W : List Nat} {s c i : Nat} (hi : i < c) (_h : s + c ≤ W.length) : ((W.drop s).take c).getD i 0 = W.getD (s + i) 0 := by
  simp only [List.getD_eq_getElem?_getD, List.getElem?_take, List.getElem?_drop, hi, if_true]
theorem piece_length {W : List Nat} {s c : Nat} (h : s + c ≤ W.length) : ((W.drop s).take c).length = c := by simp; omega
/-- a piece from behind, without going round -/
theorem Win.piece {W O : List Nat} {wr : Nat} {full : Bool} {d t g c src : Nat} (h : Win W wr full (cpy d t O)) (hd : 0 < d) (hn : d ≤ O.length) (hg : g % d = 0) (hg0 : 0 < g) (hgt : g ≤ d + t) (hc : c ≤ g) (hsrc : src + g = wr) (hw : wr + c ≤ 32768) :
    Win (putN W wr ((W.drop src).take c)) (wr + c) full (cpy d (t + c) O) := by
  have hl := cpy_length d t O; have hlen := h.len; have hle := h.leO; have hpl := piece_length (W := W) (s := src) (c := c) (by omega); rw [cpy_piece (ys := (W.drop src).take c) hd hn hg hg0 hgt hc hpl (fun i hi => by
    rw [piece_get hi (by omega), h.new _ (by omega)]; congr 1; omega)]
  have := h.write (ys := (W.drop src).take c) (by omega); rwa [hpl] at this
/-- the piece that lies at the window's end -/
theorem Win.far {W O : List Nat} {wr : Nat} {d c : Nat} (h : Win W wr true O) (hd : wr < d) (hd2 : d ≤ 32768) (hc : wr + c ≤ d) (hw : wr + c ≤ 32768) :
    Win (putN W wr ((W.drop (wr + 32768 - d)).take c)) (wr + c) true (cpy d c O) := by
  have hlen := h.len; obtain ⟨h1, h2⟩ := h.isFull rfl; have hpl := piece_length (W := W) (s := wr + 32768 - d) (c := c) (by omega); have := cpy_piece (d := d) (t := 0) (g := d) (c := c) (O := O) (ys := (W.drop (wr + 32768 - d)).take c) (by omega) (by omega) (by simp) (by omega) (by omega) (by omega) hpl (fun i hi => by
    rw [piece_get hi (by omega), h2 _ (by omega) (by omega)]; show _ = O.getD _ 0; rw [show O.length - wr - 32768 + (wr + 32768 - d + i) = O.length + 0 - d + i by omega])
  rw [Nat.zero_add] at this; rw [this]; have h3 := h.write (ys := (W.drop (wr + 32768 - d)).take c) (by omega); rw [hpl] at h3; exact h3
end Go.Proofs.YtpbahgddoamhgaaGreatDoor.Pu
namespace Go.Proofs.YtpbahgddoamhgaaGreatDoor
open Go.Proofs.Tryz
open Go Sx Pu
set_option maxRecDepth 10000

abbrev winO (Y : List Nat) : Obj := .cells (List.toArray (Y.map bV)) 5 (0, 0)
abbrev winV (hb : Nat) : Value := .slice (some ⟨hb, 0, none⟩) 32768 32768
theorem wrapI {x : Int} (h1 : -9223372036854775808 ≤ x) (h2 : x < 9223372036854775808) : IntKind.i64.wrap x = x := by
  simp only [IntKind.wrap, IntKind.bits, IntKind.signed, Bool.true_and]
  split
  · rename_i h; simp at h; omega
  · rename_i h; simp at h; omega
theorem put_map (Y : List Nat) (q : Nat) (ys : List Nat) : put (Y.map bV) q (ys.map bV) = (putN Y q ys).map bV := by simp [put, putN]
theorem pmv_win {hb m l : Nat} (h : l < m) : pmv (some ⟨hb, 0, none⟩) m l 1 = some ⟨hb, l, none⟩ := by rw [pmv_some, if_neg (by omega)]; simp
theorem rd_win {Y : List Nat} {hb s c m : Nat} {H : Hl} {r : Obj → Hl} (hA : AtH H hb (winO Y) r) (h : s + c ≤ Y.length) (hm : m = c) : Rd 1 (some ⟨hb, s, none⟩) (((Y.drop s).take c).map bV) m H := by
  subst hm; refine ⟨by simp; omega, fun _ => ⟨hb, s, Y.map bV, 5, (0, 0), r, rfl, hA, fun j hj => ?_⟩⟩; rw [List.getElem?_map, List.getElem?_map, List.getElem?_take, if_pos (by omega), List.getElem?_drop]
section
variable {fb hb : Nat} {x : Nat × Obj} {Y O : List Nat} {wr rd : Nat} {full : Bool} {D : Hl} {xr xrBuf xro xb xnb xbits xcb xhist xwr xrd xfull xb0 xb1 xb2 xb3 xstep xsst xfin xerr xtr xhl xhd xcl xcd : Value} {xh1 xh2 : HD}

theorem availWrite_spec (h : wr ≤ 32768) : CallsL Tryz.prog 81 #[.pointer (some ⟨fb, 1037, none⟩)] ((fb, fO (fc xr xrBuf xro xb xnb xh1 xh2 xbits xcb (winV hb) (iV wr) xrd xfull xb0 xb1 xb2 xb3 xstep xsst xfin xerr xtr xhl xhd xcl xcd)) :: D) fun v H' => v = iV (32768 - wr) ∧ H' = (fb, fO (fc xr xrBuf xro xb xnb xh1 xh2 xbits xcb (winV hb) (iV wr) xrd xfull xb0 xb1 xb2 xb3 xstep xsst xfin xerr xtr xhl xhd xcl xcd)) :: D := by
  refine CallsL_of func81 rfl ntmps81 rfl ?_
  try dsimp only [initE, Nat.zero_add]
  refine W_seq fun K1 hK1 => ?_; refine W_region ?_; refine xa rfl rfl ?_; refine WO_nil (sq_n (hK1 _ _ ?_)); refine W_seq fun K2 hK2 => ?_; refine W_draw mixed ?_; refine WA_k (fuel := 0) [0,1,2,3,4,5,6,7,8,9,10] rfl (by kernel_rfl) ?_; refine ym rfl rfl rfl ?_; refine yp rfl (v_nil rfl rfl) rfl ?_; refine yp rfl (v_fa (q := 0) rfl underlying142 rfl rfl sizeOf22 rfl) rfl ?_; refine yv rfl (ld rfl rfl isAgg22) rfl ?_; refine yp rfl (v_len rfl underlying22 rfl) rfl ?_; refine ym rfl rfl rfl ?_; refine yp rfl (v_nil rfl rfl) rfl ?_; refine yp rfl (v_fa (q := 1) rfl underlying142 rfl rfl sizeOf3 rfl) rfl ?_; refine yv rfl (ld rfl rfl isAgg3) rfl ?_; refine yp rfl (n_sub rfl rfl rfl kI (by omega) (by omega)) rfl ?_; refine yp rfl (v_as rfl rfl) rfl ?_; refine WK_nil ?_; refine WA_nil (by kernel_rfl) (sq_n (hK2 _ _ ?_)); refine W.keep [2] rfl ?_; refine W_ret (ret_of (v := _) rfl ?_)
  exact ⟨rfl, rfl⟩
theorem availRead_spec (h : rd ≤ wr) (h2 : wr ≤ 32768) : CallsL Tryz.prog 86 #[.pointer (some ⟨fb, 1037, none⟩)] ((fb, fO (fc xr xrBuf xro xb xnb xh1 xh2 xbits xcb xhist (iV wr) (iV rd) xfull xb0 xb1 xb2 xb3 xstep xsst xfin xerr xtr xhl xhd xcl xcd)) :: D) fun v H' => v = iV (wr - rd) ∧ H' = (fb, fO (fc xr xrBuf xro xb xnb xh1 xh2 xbits xcb xhist (iV wr) (iV rd) xfull xb0 xb1 xb2 xb3 xstep xsst xfin xerr xtr xhl xhd xcl xcd)) :: D := by
  refine CallsL_of func86 rfl ntmps86 rfl ?_
  try dsimp only [initE, Nat.zero_add]
  refine W_seq fun K1 hK1 => ?_; refine W_region ?_; refine xa rfl rfl ?_; refine WO_nil (sq_n (hK1 _ _ ?_)); refine W_seq fun K2 hK2 => ?_; refine W_draw mixed ?_; refine WA_k (fuel := 0) [0,1,2,3,4,5,6,7,8,9] rfl (by kernel_rfl) ?_; refine ym rfl rfl rfl ?_; refine yp rfl (v_nil rfl rfl) rfl ?_; refine yp rfl (v_fa (q := 1) rfl underlying142 rfl rfl sizeOf3 rfl) rfl ?_; refine yv rfl (ld rfl rfl isAgg3) rfl ?_; refine ym rfl rfl rfl ?_; refine yp rfl (v_nil rfl rfl) rfl ?_; refine yp rfl (v_fa (q := 2) rfl underlying142 rfl rfl sizeOf3 rfl) rfl ?_; refine yv rfl (ld rfl rfl isAgg3) rfl ?_; refine yp rfl (n_sub rfl rfl rfl kI (by omega) (by omega)) rfl ?_; refine yp rfl (v_as rfl rfl) rfl ?_; refine WK_nil ?_; refine WA_nil (by kernel_rfl) (sq_n (hK2 _ _ ?_)); refine W.keep [2] rfl ?_; refine W_ret (ret_of (v := _) rfl ?_); exact ⟨rfl, rfl⟩
theorem histSize_spec : CallsL Tryz.prog 83 #[.pointer (some ⟨fb, 1037, none⟩)] ((fb, fO (fc xr xrBuf xro xb xnb xh1 xh2 xbits xcb (winV hb) (iV wr) xrd (.bool full) xb0 xb1 xb2 xb3 xstep xsst xfin xerr xtr xhl xhd xcl xcd)) :: D) fun v H' => v = iV (hsz wr full) ∧ H' = (fb, fO (fc xr xrBuf xro xb xnb xh1 xh2 xbits xcb (winV hb) (iV wr) xrd (.bool full) xb0 xb1 xb2 xb3 xstep xsst xfin xerr xtr xhl xhd xcl xcd)) :: D := by
  cases full
  · refine CallsL_of func83 rfl ntmps83 rfl ?_
    try dsimp only [initE, Nat.zero_add]
    refine W_seq fun K1 hK1 => ?_; refine W_region ?_; refine xa rfl rfl ?_; refine WO_nil (sq_n (hK1 _ _ ?_)); refine W_seq fun K2 hK2 => ?_; refine W_seq fun K3 hK3 => ?_; refine W_region ?_; refine xm rfl rfl ?_; refine xn rfl rfl ?_; refine xp (v_fa (q := 3) rfl underlying142 rfl rfl sizeOf4 rfl) rfl ?_; refine xv (ld rfl rfl isAgg4) rfl ?_; refine WO_nil (sq_n (hK3 _ _ ?_)); refine W.keep [0,2,6] rfl ?_; refine W_cond_f rfl ?_; refine W_skip (sq_n (hK2 _ _ ?_)); refine W_seq fun K4 hK4 => ?_; refine W_region ?_; refine xm rfl rfl ?_; refine xn rfl rfl ?_; refine xp (v_fa (q := 1) rfl underlying142 rfl rfl sizeOf3 rfl) rfl ?_; refine xv (ld rfl rfl isAgg3) rfl ?_; refine xa rfl rfl ?_; refine WO_nil (sq_n (hK4 _ _ ?_)); refine W.keep [2] rfl ?_; refine W_ret (ret_of (v := _) rfl ?_); exact ⟨rfl, rfl⟩
  · refine CallsL_of func83 rfl ntmps83 rfl ?_
    try dsimp only [initE, Nat.zero_add]
    refine W_seq fun K1 hK1 => ?_; refine W_region ?_; refine xa rfl rfl ?_; refine WO_nil (sq_n (hK1 _ _ ?_)); refine W_seq fun K2 hK2 => ?_; refine W_seq fun K3 hK3 => ?_; refine W_region ?_; refine xm rfl rfl ?_; refine xn rfl rfl ?_; refine xp (v_fa (q := 3) rfl underlying142 rfl rfl sizeOf4 rfl) rfl ?_; refine xv (ld rfl rfl isAgg4) rfl ?_; refine WO_nil (sq_n (hK3 _ _ ?_)); refine W.keep [0,2,6] rfl ?_; refine W_cond_t rfl ?_; refine W_seq fun K4 hK4 => ?_; refine W_region ?_; refine xm rfl rfl ?_; refine xn rfl rfl ?_; refine xp (v_fa (q := 0) rfl underlying142 rfl rfl sizeOf22 rfl) rfl ?_; refine xv (ld rfl rfl isAgg22) rfl ?_; refine xp (v_len rfl underlying22 rfl) rfl ?_; refine xa rfl rfl ?_; refine WO_nil (sq_n (hK4 _ _ ?_)); refine W.keep [0,2] rfl ?_; refine W_ret (sq_r (ret_of (v := _) rfl ?_)); exact ⟨rfl, rfl⟩
/-- what is flushed -/
abbrev flV (hb wr rd : Nat) : Value := .slice (pmv (some ⟨hb, 0, none⟩) 32768 rd 1) (wr - rd) (32768 - rd)
theorem readFlush_spec (h : rd ≤ wr) (h2 : wr ≤ 32768) : CallsL Tryz.prog 75 #[.pointer (some ⟨fb, 1037, none⟩)] ((fb, fO (fc xr xrBuf xro xb xnb xh1 xh2 xbits xcb (winV hb) (iV wr) (iV rd) (.bool full) xb0 xb1 xb2 xb3 xstep xsst xfin xerr xtr xhl xhd xcl xcd)) :: D) fun v H' =>
    v = flV hb wr rd ∧ H' = (fb, fO (fc xr xrBuf xro xb xnb xh1 xh2 xbits xcb (winV hb) (iV (if wr = 32768 then 0 else wr)) (iV (if wr = 32768 then 0 else wr)) (.bool (if wr = 32768 then true else full)) xb0 xb1 xb2 xb3 xstep xsst xfin xerr xtr xhl xhd xcl xcd)) :: D := by
  refine CallsL_of func75 rfl ntmps75 rfl ?_
  try dsimp only [initE, Nat.zero_add]
  refine W_seq fun K1 hK1 => ?_; refine W_region ?_; refine xa rfl rfl ?_; refine WO_nil (sq_n (hK1 _ _ ?_)); refine W_seq fun K2 hK2 => ?_; refine W_draw mixed ?_; refine WA_k (fuel := 0) [0,1,2,3,4,5,6,7,8,9,10,11,12,13] rfl (by kernel_rfl) ?_; refine ym rfl rfl rfl ?_; refine yp rfl (v_nil rfl rfl) rfl ?_; refine yp rfl (v_fa (q := 0) rfl underlying142 rfl rfl sizeOf22 rfl) rfl ?_; refine yv rfl (ld rfl rfl isAgg22) rfl ?_; refine ym rfl rfl rfl ?_; refine yp rfl (v_nil rfl rfl) rfl ?_; refine yp rfl (v_fa (q := 2) rfl underlying142 rfl rfl sizeOf3 rfl) rfl ?_; refine yv rfl (ld rfl rfl isAgg3) rfl ?_; refine ym rfl rfl rfl ?_; refine yp rfl (v_nil rfl rfl) rfl ?_; refine yp rfl (v_fa (q := 1) rfl underlying142 rfl rfl sizeOf3 rfl) rfl ?_; refine yv rfl (ld rfl rfl isAgg3) rfl ?_
  refine yp rfl (v_slp rfl underlying22 sizeOf5 rfl .none (.some rfl) (.some rfl) (by omega) (by omega) (by omega) (by decide)) rfl ?_; refine yp rfl (v_as rfl rfl) rfl ?_; refine WK_nil ?_; refine WA_nil (by kernel_rfl) (sq_n (hK2 _ _ ?_)); refine W.keep [0,2,3] rfl ?_; refine W_seq fun K3 hK3 => ?_; refine W_region ?_; refine xm rfl rfl ?_; refine xm rfl rfl ?_; refine xn rfl rfl ?_; refine xp (v_fa (q := 1) rfl underlying142 rfl rfl sizeOf3 rfl) rfl ?_; refine xv (ld rfl rfl isAgg3) rfl ?_; refine xn rfl rfl ?_; refine xp (v_fa (q := 2) rfl underlying142 rfl rfl sizeOf3 rfl) rfl ?_; refine wst rfl rfl rfl sizeOf3 rfl rfl rfl ?_; refine WO_nil (sq_n (hK3 _ _ ?_)); refine W.keep [0,2,3] rfl ?_; refine W_seq fun K4 hK4 => ?_; refine W_seq fun K5 hK5 => ?_; refine W_draw mixed ?_; refine WA_k (fuel := 0) [0,1,2,3,4,5,6,7,8,9] rfl (by kernel_rfl) ?_; refine ym rfl rfl rfl ?_
  refine yp rfl (v_nil rfl rfl) rfl ?_; refine yp rfl (v_fa (q := 1) rfl underlying142 rfl rfl sizeOf3 rfl) rfl ?_; refine yv rfl (ld rfl rfl isAgg3) rfl ?_; refine ym rfl rfl rfl ?_; refine yp rfl (v_nil rfl rfl) rfl ?_; refine yp rfl (v_fa (q := 0) rfl underlying142 rfl rfl sizeOf22 rfl) rfl ?_; refine yv rfl (ld rfl rfl isAgg22) rfl ?_; refine yp rfl (v_len rfl underlying22 rfl) rfl ?_; refine yp rfl (n_eq rfl rfl rfl) rfl ?_; refine WK_nil ?_; refine WA_nil (by kernel_rfl) (sq_n (hK5 _ _ ?_)); refine W.keep [0,2,3,33] rfl ?_; refine W_cond rfl (fun hc0 => ?_) (fun hc0 => ?_)
  · replace hc0 := of_decide_eq_true hc0; refine W_seq fun K6 hK6 => ?_; refine W_region ?_; refine xm rfl rfl ?_; refine xm rfl rfl ?_; refine xn rfl rfl ?_; refine xp (v_fa (q := 1) rfl underlying142 rfl rfl sizeOf3 rfl) rfl ?_; refine wst rfl rfl rfl sizeOf3 rfl rfl rfl ?_; refine xn rfl rfl ?_; refine xp (v_fa (q := 2) rfl underlying142 rfl rfl sizeOf3 rfl) rfl ?_; refine wst rfl rfl rfl sizeOf3 rfl rfl rfl ?_; refine WO_nil (sq_n (hK6 _ _ ?_)); refine W.keep [0,2,3] rfl ?_; refine W_region ?_; refine xm rfl rfl ?_; refine xn rfl rfl ?_; refine xp (v_fa (q := 3) rfl underlying142 rfl rfl sizeOf4 rfl) rfl ?_; refine wst rfl rfl rfl sizeOf4 rfl rfl rfl ?_; refine WO_nil (sq_n (hK4 _ _ ?_)); refine W.keep [2,3] rfl ?_; refine W_seq fun K7 hK7 => ?_; refine W_region ?_; refine xm rfl rfl ?_; refine xa rfl rfl ?_; refine WO_nil (sq_n (hK7 _ _ ?_)); refine W_ret (ret_of (v := _) rfl ?_)
    rw [if_pos hc0, if_pos hc0]; exact ⟨rfl, rfl⟩
  · replace hc0 := of_decide_eq_false hc0; refine W_skip (sq_n (hK4 _ _ ?_)); refine W_seq fun K8 hK8 => ?_; refine W_region ?_; refine xm rfl rfl ?_; refine xa rfl rfl ?_; refine WO_nil (sq_n (hK8 _ _ ?_)); refine W.keep [2] rfl ?_; refine W_ret (ret_of (v := _) rfl ?_); rw [if_neg hc0, if_neg hc0]; exact ⟨rfl, rfl⟩
theorem writeByte_spec {c : Nat} (h : wr < 32768) (hW : Y.length = 32768) : CallsL Tryz.prog 80 #[.pointer (some ⟨fb, 1037, none⟩), bV c] ((fb, fO (fc xr xrBuf xro xb xnb xh1 xh2 xbits xcb (winV hb) (iV wr) xrd xfull xb0 xb1 xb2 xb3 xstep xsst xfin xerr xtr xhl xhd xcl xcd)) :: x :: (hb, winO Y) :: D) fun _ H' =>
    H' = (fb, fO (fc xr xrBuf xro xb xnb xh1 xh2 xbits xcb (winV hb) (iV (wr + 1)) xrd xfull xb0 xb1 xb2 xb3 xstep xsst xfin xerr xtr xhl xhd xcl xcd)) :: x :: (hb, winO (Y.set wr c)) :: D := by
  refine CallsL_of func80 rfl ntmps80 rfl ?_
  try dsimp only [initE, Nat.zero_add]
  refine W_seq fun K1 hK1 => ?_; refine W_draw mixed ?_; refine WA_k (fuel := 1) [0,1,2,3,4,5,6,7,8,9] rfl (by kernel_rfl) ?_; refine ym rfl rfl rfl ?_; refine yp rfl (v_nil rfl rfl) rfl ?_; refine yp rfl (v_fa (q := 0) rfl underlying142 rfl rfl sizeOf22 rfl) rfl ?_; refine yv rfl (ld rfl rfl isAgg22) rfl ?_; refine ym rfl rfl rfl ?_; refine yp rfl (v_nil rfl rfl) rfl ?_; refine yp rfl (v_fa (q := 1) rfl underlying142 rfl rfl sizeOf3 rfl) rfl ?_; refine yv rfl (ld rfl rfl isAgg3) rfl ?_; refine ym rfl rfl rfl ?_; refine yp rfl (v_ixs rfl underlying22 sizeOf5 rfl rfl (by omega)) rfl ?_; refine WK_nil ?_; refine WA_one (k := 10) rfl (by kernel_rfl) ?_; refine wst' rfl rfl rfl sizeOf5 rfl (List.map_set (f := bV)).symm (by simp only [List.length_map]; omega) rfl rfl ?_; refine WO_nil (sq_n ?_); refine WA_nil (by kernel_rfl) (sq_n (hK1 _ _ ?_)); refine W.keep [0] rfl ?_; refine W_region ?_
  refine xm rfl rfl ?_; refine xn rfl rfl ?_; refine xp (v_fa (q := 1) rfl underlying142 rfl rfl sizeOf3 rfl) rfl ?_; refine xv (ld rfl rfl isAgg3) rfl ?_; refine xp (n_add rfl rfl rfl kI (by omega)) rfl ?_; refine xn rfl rfl ?_; refine xp (v_fa (q := 1) rfl underlying142 rfl rfl sizeOf3 rfl) rfl ?_; refine wst rfl rfl rfl sizeOf3 rfl rfl rfl ?_; refine WO_nil (end_of (v := _) rfl ?_); exact rfl
theorem writeSlice_spec (h : wr ≤ 32768) : CallsL Tryz.prog 87 #[.pointer (some ⟨fb, 1037, none⟩)] ((fb, fO (fc xr xrBuf xro xb xnb xh1 xh2 xbits xcb (winV hb) (iV wr) xrd xfull xb0 xb1 xb2 xb3 xstep xsst xfin xerr xtr xhl xhd xcl xcd)) :: D) fun v H' =>
    v = .slice (pmv (some ⟨hb, 0, none⟩) 32768 wr 1) (32768 - wr) (32768 - wr) ∧ H' = (fb, fO (fc xr xrBuf xro xb xnb xh1 xh2 xbits xcb (winV hb) (iV wr) xrd xfull xb0 xb1 xb2 xb3 xstep xsst xfin xerr xtr xhl xhd xcl xcd)) :: D := by
  refine CallsL_of func87 rfl ntmps87 rfl ?_
  try dsimp only [initE, Nat.zero_add]
  refine W_seq fun K1 hK1 => ?_; refine W_region ?_; refine xa rfl rfl ?_; refine WO_nil (sq_n (hK1 _ _ ?_)); refine W_seq fun K2 hK2 => ?_; refine W_draw mixed ?_; refine WA_k (fuel := 0) [0,1,2,3,4,5,6,7,8,9] rfl (by kernel_rfl) ?_; refine ym rfl rfl rfl ?_; refine yp rfl (v_nil rfl rfl) rfl ?_; refine yp rfl (v_fa (q := 0) rfl underlying142 rfl rfl sizeOf22 rfl) rfl ?_; refine yv rfl (ld rfl rfl isAgg22) rfl ?_; refine ym rfl rfl rfl ?_; refine yp rfl (v_nil rfl rfl) rfl ?_; refine yp rfl (v_fa (q := 1) rfl underlying142 rfl rfl sizeOf3 rfl) rfl ?_; refine yv rfl (ld rfl rfl isAgg3) rfl ?_; refine yp rfl (v_slp rfl underlying22 sizeOf5 rfl .none .none (.some rfl) (by omega) (by omega) (by omega) (by decide)) rfl ?_; refine yp rfl (v_as rfl rfl) rfl ?_; refine WK_nil ?_; refine WA_nil (by kernel_rfl) (sq_n (hK2 _ _ ?_)); refine W.keep [2] rfl ?_; refine W_ret (ret_of (v := _) rfl ?_)
  exact ⟨rfl, rfl⟩
theorem writeMark_spec {c : Nat} (h : wr + c ≤ 32768) : CallsL Tryz.prog 88 #[.pointer (some ⟨fb, 1037, none⟩), iV c] ((fb, fO (fc xr xrBuf xro xb xnb xh1 xh2 xbits xcb xhist (iV wr) xrd xfull xb0 xb1 xb2 xb3 xstep xsst xfin xerr xtr xhl xhd xcl xcd)) :: D) fun _ H' => H' = (fb, fO (fc xr xrBuf xro xb xnb xh1 xh2 xbits xcb xhist (iV (wr + c)) xrd xfull xb0 xb1 xb2 xb3 xstep xsst xfin xerr xtr xhl xhd xcl xcd)) :: D := by
  refine CallsL_of func88 rfl ntmps88 rfl ?_
  try dsimp only [initE, Nat.zero_add]
  refine W_region ?_; refine xm rfl rfl ?_; refine xn rfl rfl ?_; refine xp (v_fa (q := 1) rfl underlying142 rfl rfl sizeOf3 rfl) rfl ?_; refine xv (ld rfl rfl isAgg3) rfl ?_; refine xm rfl rfl ?_; refine xp (n_add rfl rfl rfl kI (by omega)) rfl ?_; refine xn rfl rfl ?_; refine xp (v_fa (q := 1) rfl underlying142 rfl rfl sizeOf3 rfl) rfl ?_; refine wst rfl rfl rfl sizeOf3 rfl rfl rfl ?_; refine WO_nil (end_of (v := _) rfl ?_); exact rfl
theorem tryWriteCopy_spec {d m : Nat} (hw : Win Y wr full O) (hd : 0 < d) (hd2 : d ≤ 32768) (hdO : d ≤ O.length) (hm : m ≤ 65535) :
    CallsL Tryz.prog 84 #[.pointer (some ⟨fb, 1037, none⟩), iV d, iV m] ((fb, fO (fc xr xrBuf xro xb xnb xh1 xh2 xbits xcb (winV hb) (iV wr) xrd xfull xb0 xb1 xb2 xb3 xstep xsst xfin xerr xtr xhl xhd xcl xcd)) :: x :: (hb, winO Y) :: D) fun v H' =>
      (v = iV 0 ∧ H' = (fb, fO (fc xr xrBuf xro xb xnb xh1 xh2 xbits xcb (winV hb) (iV wr) xrd xfull xb0 xb1 xb2 xb3 xstep xsst xfin xerr xtr xhl xhd xcl xcd)) :: x :: (hb, winO Y) :: D) ∨
      (wr + m ≤ 32768 ∧ v = iV m ∧ ∃ Y', Win Y' (wr + m) full (cpy d m O) ∧ H' = (fb, fO (fc xr xrBuf xro xb xnb xh1 xh2 xbits xcb (winV hb) (iV (wr + m)) xrd xfull xb0 xb1 xb2 xb3 xstep xsst xfin xerr xtr xhl xhd xcl xcd)) :: x :: (hb, winO Y') :: D) := by
  have hwr := hw.le; refine CallsL_of func84 rfl ntmps84 rfl ?_
  try dsimp only [initE, Nat.zero_add]
  refine W_seq fun K1 hK1 => ?_; refine W_region ?_; refine xa rfl rfl ?_; refine WO_nil (sq_n (hK1 _ _ ?_)); refine W_seq fun K2 hK2 => ?_; refine W_region ?_; refine xm rfl rfl ?_; refine xn rfl rfl ?_; refine xp (v_fa (q := 1) rfl underlying142 rfl rfl sizeOf3 rfl) rfl ?_; refine xv (ld rfl rfl isAgg3) rfl ?_; refine xa rfl rfl ?_; refine WO_nil (sq_n (hK2 _ _ ?_)); refine W.keep [0,1,2,6,7] rfl ?_; refine W_seq fun K3 hK3 => ?_; refine W_region ?_; refine xm rfl rfl ?_; refine xm rfl rfl ?_; refine xp (n_add rfl rfl rfl kI (by omega)) rfl ?_; refine xa rfl rfl ?_; refine WO_nil (sq_n (hK3 _ _ ?_)); refine W.keep [0,1,6,7,8] rfl ?_; refine W_seq fun K4 hK4 => ?_; refine W_seq fun K5 hK5 => ?_; by_cases h1 : wr < d
  · refine W_region ?_; refine xm rfl rfl ?_; refine xm rfl rfl ?_; refine xp (v_lt rfl rfl rfl (dT (by omega))) rfl ?_; refine xm rfl rfl ?_; refine xno rfl ?_; refine xno rfl ?_; refine xno rfl ?_; refine xno rfl ?_; refine xno rfl ?_; refine xno rfl ?_; refine xno rfl ?_; refine xp (v_pt rfl rfl rfl) rfl ?_; refine WO_nil (sq_n (hK5 _ _ ?_)); refine W.keep [0,1,6,7,8,29] rfl ?_; refine W_cond_t rfl ?_; refine W_seq fun K6 hK6 => ?_; refine W_region ?_; refine xa rfl rfl ?_; refine WO_nil (sq_n (hK6 _ _ ?_)); refine W_ret (sq_r (ret_of (v := _) rfl ?_)); exact .inl ⟨rfl, rfl⟩
  · refine W_region ?_; refine xm rfl rfl ?_; refine xm rfl rfl ?_; refine xp (v_lt rfl rfl rfl (dF (by omega))) rfl ?_; refine xm rfl rfl ?_; refine xm rfl rfl ?_; refine xm rfl rfl ?_; refine xn rfl rfl ?_; refine xp (v_fa (q := 0) rfl underlying142 rfl rfl sizeOf22 rfl) rfl ?_; refine xv (ld rfl rfl isAgg22) rfl ?_; refine xp (v_len rfl underlying22 rfl) rfl ?_; refine xp (n_gt rfl rfl rfl) rfl ?_; refine xp (v_pf rfl rfl rfl) rfl ?_; refine WO_nil (sq_n (hK5 _ _ ?_)); refine W.keep [0,1,6,7,8,29] rfl ?_; refine W_cond rfl (fun hc0 => ?_) (fun hc0 => ?_)
    · replace hc0 := of_decide_eq_true hc0; refine W_seq fun K7 hK7 => ?_; refine W_region ?_; refine xa rfl rfl ?_; refine WO_nil (sq_n (hK7 _ _ ?_)); refine W_ret (sq_r (ret_of (v := _) rfl ?_)); exact .inl ⟨rfl, rfl⟩
    · replace hc0 := of_decide_eq_false hc0; refine W_skip (sq_n (hK4 _ _ ?_)); refine W_seq fun K8 hK8 => ?_; refine W_region ?_; refine xm rfl rfl ?_; refine xa rfl rfl ?_; refine WO_nil (sq_n (hK8 _ _ ?_)); refine W_seq fun K9 hK9 => ?_; refine W_region ?_; refine xm rfl rfl ?_; refine xm rfl rfl ?_; refine xp (n_sub rfl rfl rfl kI (by omega) (by omega)) rfl ?_; refine xa rfl rfl ?_; refine WO_nil (sq_n (hK9 _ _ ?_)); refine W.keep [0,6,7,8,9,10] rfl ?_; refine W_seq fun K10 hK10 => ?_; refine W_block ?_
      refine W_loop (fun z E H => ∃ t Y, t ≤ m ∧ z = m - t ∧ Win Y (wr + t) full (cpy d t O) ∧ (t < m → t % d = 0) ∧ Sub E [(0, .pointer (some ⟨fb, 1037, none⟩)), (7, iV (wr + t)), (8, iV (wr + m)), (9, iV wr), (10, iV (wr - d))] ∧ H = (fb, fO (fc xr xrBuf xro xb xnb xh1 xh2 xbits xcb (winV hb) (iV wr) xrd xfull xb0 xb1 xb2 xb3 xstep xsst xfin xerr xtr xhl xhd xcl xcd)) :: x :: (hb, winO Y) :: D) (m := _) (⟨0, Y, by omega, rfl, hw, by intro _; simp, ⟨rfl, rfl, rfl, rfl, rfl, trivial⟩, rfl⟩) ?_; rintro _ E H ⟨t, Y, ht, rfl, hw, htd, hE, rfl⟩; refine W.env hE ?_; refine W_seq fun K11 hK11 => ?_; refine W_seq fun K12 hK12 => ?_; refine W_region ?_; refine xm rfl rfl ?_; refine xm rfl rfl ?_; refine xp (n_lt rfl rfl rfl) rfl ?_; refine WO_nil (sq_n (hK12 _ _ ?_)); refine W_cond rfl (fun hc1 => ?_) (fun hc1 => ?_)
      · replace hc1 := of_decide_eq_true hc1; refine W_skip (sq_n (hK11 _ _ ?_)); refine W_block ?_; have htd := htd (by omega); obtain ⟨c, hc⟩ : ∃ c, c = min (d + t) (m - t) := ⟨_, rfl⟩; have hc1 : c ≤ d + t := by omega
        have hc2 : c ≤ m - t := by omega
        have hc3 : 0 < c := by omega
        have hw2 := hw.piece (c := c) (g := d + t) (src := wr - d) hd hdO (by rw [Nat.add_mod, Nat.mod_self, htd]; simp) (by omega) (by omega) hc1 (by omega) (by omega); have hlen := hw.len; rw [Nat.add_assoc] at hw2; refine W_draw mixed ?_; refine ap 0 rfl (by kernel_rfl) (v_mv rfl rfl) rfl rfl rfl ?_; refine WA_k (fuel := 3) [1,2,3,4,5,6,7,8,9,10,11,12,13,14] rfl (by kernel_rfl) ?_; refine ym rfl rfl rfl ?_; refine yp rfl (v_nil rfl rfl) rfl ?_; refine yp rfl (v_fa (q := 0) rfl underlying142 rfl rfl sizeOf22 rfl) rfl ?_; refine yv rfl (ld rfl rfl isAgg22) rfl ?_; refine ym rfl rfl rfl ?_; refine ym rfl rfl rfl ?_; refine yp rfl (v_slp rfl underlying22 sizeOf5 rfl .none (.some rfl) (.some rfl) (by omega) (by omega) (by omega) (by decide)) rfl ?_; refine ym rfl rfl rfl ?_; refine yp rfl (v_nil rfl rfl) rfl ?_; refine yp rfl (v_fa (q := 0) rfl underlying142 rfl rfl sizeOf22 rfl) rfl ?_
        refine yv rfl (ld rfl rfl isAgg22) rfl ?_; refine ym rfl rfl rfl ?_; refine ym rfl rfl rfl ?_; refine yp rfl (v_slp rfl underlying22 sizeOf5 rfl .none (.some rfl) (.some rfl) (by omega) (by omega) (by omega) (by decide)) rfl ?_; refine WK_nil ?_; refine WA_one (k := 15) rfl (by kernel_rfl) ?_; rw [pmv_win (by omega : wr + t < 32768), pmv_win (by omega : wr - d < 32768)]; refine ws (v_cp rfl rfl underlying22 sizeOf5 rfl rfl (k := c) (by omega) (rd_win (s := wr - d) (c := c) (AtH.there (h := AtH.there (h := AtH.here))) (by omega) rfl) (fun u hu => by obtain ⟨_, _, rfl⟩ := List.mem_map.1 hu; rfl) (by simp; omega)) rfl rfl rfl ?_; rintro _ _ ⟨rfl, rfl⟩; rw [put_map]; refine WO_nil (sq_n ?_); refine WA_k (fuel := 0) [16,17] rfl (by kernel_rfl) ?_; refine yp rfl (n_add rfl rfl rfl kI (by omega)) rfl ?_; refine yp rfl (v_as rfl rfl) rfl ?_; refine WK_nil ?_
        refine WA_nil (by kernel_rfl) (bl_n (sq_n (?_))); rw [Nat.add_assoc wr t c]; refine ⟨m - (t + c), by omega, t + c, _, by omega, rfl, hw2, ?_, ⟨rfl, rfl, rfl, rfl, rfl, trivial⟩, rfl⟩; intro h; obtain rfl : c = d + t := by omega
        rw [← Nat.add_assoc, Nat.add_mod, Nat.add_mod t d, Nat.mod_self, htd]; simp
      · replace hc1 := of_decide_eq_false hc1; obtain rfl : t = m := by omega
        refine W_exit (sq_x (sq_x (bl_x (sq_n (hK10 _ _ ?_))))); refine W.keep [0,7,9] rfl ?_; refine W_seq fun K13 hK13 => ?_; refine W_region ?_; refine xm rfl rfl ?_; refine xm rfl rfl ?_; refine xn rfl rfl ?_; refine xp (v_fa (q := 1) rfl underlying142 rfl rfl sizeOf3 rfl) rfl ?_; refine wst rfl rfl rfl sizeOf3 rfl rfl rfl ?_; refine WO_nil (sq_n (hK13 _ _ ?_)); refine W.keep [7,9] rfl ?_; refine W_seq fun K14 hK14 => ?_; refine W_region ?_; refine xm rfl rfl ?_; refine xm rfl rfl ?_; refine xp (n_sub rfl rfl rfl kI (by omega) (by omega)) rfl ?_; refine xa rfl rfl ?_; refine WO_nil (sq_n (hK14 _ _ ?_)); refine W.keep [6] rfl ?_; refine W_ret (ret_of (v := _) rfl ?_); exact .inr ⟨by omega, by simp, _, hw, rfl⟩
theorem writeCopy_spec {d m : Nat} (hw : Win Y wr full O) (hd : 0 < d) (hd2 : d ≤ hsz wr full) (hdO : d ≤ O.length) (hm : m ≤ 65535) :
    CallsL Tryz.prog 85 #[.pointer (some ⟨fb, 1037, none⟩), iV d, iV m] ((fb, fO (fc xr xrBuf xro xb xnb xh1 xh2 xbits xcb (winV hb) (iV wr) xrd xfull xb0 xb1 xb2 xb3 xstep xsst xfin xerr xtr xhl xhd xcl xcd)) :: x :: (hb, winO Y) :: D) fun v H' =>
      v = iV (min (wr + m) 32768 - wr) ∧ ∃ Y', Win Y' (min (wr + m) 32768) full (cpy d (min (wr + m) 32768 - wr) O) ∧ H' = (fb, fO (fc xr xrBuf xro xb xnb xh1 xh2 xbits xcb (winV hb) (iV (min (wr + m) 32768)) xrd xfull xb0 xb1 xb2 xb3 xstep xsst xfin xerr xtr xhl xhd xcl xcd)) :: x :: (hb, winO Y') :: D := by
  have hwr := hw.le; have hd3 : d ≤ 32768 := by unfold hsz at hd2; split at hd2 <;> omega
  obtain ⟨e, he⟩ : ∃ e, e = min (wr + m) 32768 := ⟨_, rfl⟩; rw [← he]; refine CallsL_of func85 rfl ntmps85 rfl ?_
  try dsimp only [initE, Nat.zero_add]
  refine W_seq fun K1 hK1 => ?_; refine W_region ?_; refine xa rfl rfl ?_; refine WO_nil (sq_n (hK1 _ _ ?_)); refine W_seq fun K2 hK2 => ?_; refine W_region ?_; refine xm rfl rfl ?_; refine xn rfl rfl ?_; refine xp (v_fa (q := 1) rfl underlying142 rfl rfl sizeOf3 rfl) rfl ?_; refine xv (ld rfl rfl isAgg3) rfl ?_; refine xa rfl rfl ?_; refine WO_nil (sq_n (hK2 _ _ ?_)); refine W.keep [0,1,2,6,7] rfl ?_; refine W_seq fun K3 hK3 => ?_; refine W_region ?_; refine xm rfl rfl ?_; refine xa rfl rfl ?_; refine WO_nil (sq_n (hK3 _ _ ?_)); refine W_seq fun K4 hK4 => ?_; refine W_region ?_; refine xm rfl rfl ?_; refine xm rfl rfl ?_; refine xp (v_sub rfl rfl rfl (r := ((wr : Int) - (d : Int))) (wrapI (by omega) (by omega))) rfl ?_; refine xa rfl rfl ?_; refine WO_nil (sq_n (hK4 _ _ ?_)); refine W.keep [0,2,6,7,8,9] rfl ?_; refine W_seq fun K5 hK5 => ?_; refine W_region ?_; refine xm rfl rfl ?_
  refine xm rfl rfl ?_; refine xp (n_add rfl rfl rfl kI (by omega)) rfl ?_; refine xm rfl rfl ?_; refine xn rfl rfl ?_; refine xp (v_fa (q := 0) rfl underlying142 rfl rfl sizeOf22 rfl) rfl ?_; refine xv (ld rfl rfl isAgg22) rfl ?_; refine xp (v_len rfl underlying22 rfl) rfl ?_; refine xp (n_min rfl rfl rfl) rfl ?_; refine xp (v_as rfl (v := iV e) (by rw [he]; rfl)) rfl ?_; refine WO_nil (sq_n (hK5 _ _ ?_)); refine W.keep [0,6,7,8,9,10] rfl ?_; refine W_seq_mid (fun E H => ∃ t Y src g, t ≤ e - wr ∧ Win Y (wr + t) full (cpy d t O) ∧ (t < e - wr → g % d = 0 ∧ 0 < g ∧ g ≤ d + t ∧ src + g = wr + t) ∧ Sub E [(0, .pointer (some ⟨fb, 1037, none⟩)), (7, iV wr), (8, iV (wr + t)), (9, iV src), (10, iV e)] ∧ H = (fb, fO (fc xr xrBuf xro xb xnb xh1 xh2 xbits xcb (winV hb) (iV wr) xrd xfull xb0 xb1 xb2 xb3 xstep xsst xfin xerr xtr xhl xhd xcl xcd)) :: x :: (hb, winO Y) :: D) ?_ ?_
  · refine W_seq fun K7 hK7 => ?_; by_cases h1 : wr < d
    · have hf : full = true := by
        unfold hsz at hd2
        cases full
        · simp at hd2; omega
        · rfl
      subst hf; refine W_region ?_; refine xm rfl rfl ?_; refine xp (v_lt rfl rfl rfl (dT (by omega))) rfl ?_; refine WO_nil (sq_n (hK7 _ _ ?_)); refine W_cond_t rfl ?_; refine W_seq fun K8 hK8 => ?_; refine W_region ?_; refine xm rfl rfl ?_; refine xm rfl rfl ?_; refine xn rfl rfl ?_; refine xp (v_fa (q := 0) rfl underlying142 rfl rfl sizeOf22 rfl) rfl ?_; refine xv (ld rfl rfl isAgg22) rfl ?_; refine xp (v_len rfl underlying22 rfl) rfl ?_; refine xp (v_add rfl rfl rfl (r := ((wr + 32768 - d : Nat) : Int)) (by rw [wrapI (by omega) (by omega)]; omega)) rfl ?_; refine xa rfl rfl ?_; refine WO_nil (sq_n (hK8 _ _ ?_)); refine W.keep [0,6,7,8,10,9] rfl ?_; refine W_seq fun K9 hK9 => ?_; obtain ⟨c, hc⟩ : ∃ c, c = min (e - wr) (d - wr) := ⟨_, rfl⟩; have hlen := hw.len; have hw2 := hw.far (d := d) (c := c) h1 hd3 (by omega) (by omega); refine W_draw mixed ?_
      refine ap 0 rfl (by kernel_rfl) (v_mv rfl rfl) rfl rfl rfl ?_; refine WA_k (fuel := 3) [1,2,3,4,5,6,7,8,9,10,11,12,13] rfl (by kernel_rfl) ?_; refine ym rfl rfl rfl ?_; refine yp rfl (v_nil rfl rfl) rfl ?_; refine yp rfl (v_fa (q := 0) rfl underlying142 rfl rfl sizeOf22 rfl) rfl ?_; refine yv rfl (ld rfl rfl isAgg22) rfl ?_; refine ym rfl rfl rfl ?_; refine ym rfl rfl rfl ?_; refine yp rfl (v_slp rfl underlying22 sizeOf5 rfl .none (.some rfl) (.some rfl) (by omega) (by omega) (by omega) (by decide)) rfl ?_; refine ym rfl rfl rfl ?_; refine yp rfl (v_nil rfl rfl) rfl ?_; refine yp rfl (v_fa (q := 0) rfl underlying142 rfl rfl sizeOf22 rfl) rfl ?_; refine yv rfl (ld rfl rfl isAgg22) rfl ?_; refine ym rfl rfl rfl ?_; refine yp rfl (v_slp rfl underlying22 sizeOf5 rfl .none .none (.some rfl) (by omega) (by omega) (by omega) (by decide)) rfl ?_; refine WK_nil ?_
      refine WA_one (k := 14) rfl (by kernel_rfl) ?_; rw [pmv_win (l := wr) (by omega), pmv_win (l := wr + 32768 - d) (by omega)]; refine ws (v_cp rfl rfl underlying22 sizeOf5 rfl rfl (k := c) (by omega) (rd_win (s := wr + 32768 - d) (c := c) (AtH.there (h := AtH.there (h := AtH.here))) (by omega) rfl) (fun u hu => by obtain ⟨_, _, rfl⟩ := List.mem_map.1 hu; rfl) (by simp; omega)) rfl rfl rfl ?_; rintro _ _ ⟨rfl, rfl⟩; rw [put_map]; refine WO_nil (sq_n ?_); refine WA_k (fuel := 0) [15,16] rfl (by kernel_rfl) ?_; refine yp rfl (n_add rfl rfl rfl kI (by omega)) rfl ?_; refine yp rfl (v_as rfl rfl) rfl ?_; refine WK_nil ?_; refine WA_nil (by kernel_rfl) (sq_n (hK9 _ _ ?_)); refine W.keep [0,6,7,10,9,8] rfl ?_; refine W_region ?_; refine xa rfl rfl ?_; refine WO_nil (sq_n (?_)); first
      | exact ⟨0, Y, wr - d, d, by omega, hw, by intro _; exact ⟨Nat.mod_self d, by omega, by omega, by omega⟩, ⟨rfl, rfl, rfl, by show some _ = some _; congr 2; omega, rfl, trivial⟩, rfl⟩
      | exact ⟨c, _, 0, d, by omega, hw2, by intro _; exact ⟨Nat.mod_self d, by omega, by omega, by omega⟩, ⟨rfl, rfl, rfl, rfl, rfl, trivial⟩, rfl⟩
    · obtain ⟨g, hg⟩ : ∃ g, g = d := ⟨_, rfl⟩; refine W_region ?_; refine xm rfl rfl ?_; refine xp (v_lt rfl rfl rfl (dF (by omega))) rfl ?_; refine WO_nil (sq_n (hK7 _ _ ?_)); refine W_cond_f rfl ?_; refine W_skip (sq_n (?_)); first
      | exact ⟨0, Y, wr - d, d, by omega, hw, by intro _; exact ⟨Nat.mod_self d, by omega, by omega, by omega⟩, ⟨rfl, rfl, rfl, by show some _ = some _; congr 2; omega, rfl, trivial⟩, rfl⟩
      | exact ⟨c, _, 0, d, by omega, hw2, by intro _; exact ⟨Nat.mod_self d, by omega, by omega, by omega⟩, ⟨rfl, rfl, rfl, rfl, rfl, trivial⟩, rfl⟩
  · rintro E H ⟨t, Y, src, g, ht, hw, hsg, hE, rfl⟩; refine W.env hE ?_; refine W_seq fun K10 hK10 => ?_; refine W_block ?_; refine W_loop (fun z E H => ∃ t Y g, t ≤ e - wr ∧ z = e - wr - t ∧ Win Y (wr + t) full (cpy d t O) ∧ (t < e - wr → g % d = 0 ∧ 0 < g ∧ g ≤ d + t ∧ src + g = wr + t) ∧ Sub E [(0, .pointer (some ⟨fb, 1037, none⟩)), (7, iV wr), (8, iV (wr + t)), (9, iV src), (10, iV e)] ∧ H = (fb, fO (fc xr xrBuf xro xb xnb xh1 xh2 xbits xcb (winV hb) (iV wr) xrd xfull xb0 xb1 xb2 xb3 xstep xsst xfin xerr xtr xhl xhd xcl xcd)) :: x :: (hb, winO Y) :: D) (m := _) (⟨t, Y, g, ht, rfl, hw, hsg, ⟨rfl, rfl, rfl, rfl, rfl, trivial⟩, rfl⟩) ?_; rintro _ E H ⟨t, Y, g, ht, rfl, hw, hsg, hE, rfl⟩; refine W.env hE ?_; refine W_seq fun K11 hK11 => ?_; refine W_seq fun K12 hK12 => ?_; refine W_region ?_; refine xm rfl rfl ?_; refine xm rfl rfl ?_; refine xp (n_lt rfl rfl rfl) rfl ?_
    refine WO_nil (sq_n (hK12 _ _ ?_)); refine W_cond rfl (fun hc1 => ?_) (fun hc1 => ?_)
    · replace hc1 := of_decide_eq_true hc1; refine W_skip (sq_n (hK11 _ _ ?_)); refine W_block ?_; obtain ⟨g1, g2, g3, g4⟩ := hsg (by omega); obtain ⟨c, hc⟩ : ∃ c, c = min g (e - wr - t) := ⟨_, rfl⟩; have hw2 := hw.piece (c := c) (g := g) (src := src) hd hdO g1 g2 g3 (by omega) (by omega) (by omega); have hlen := hw.len; rw [Nat.add_assoc] at hw2; refine W_draw mixed ?_; refine ap 0 rfl (by kernel_rfl) (v_mv rfl rfl) rfl rfl rfl ?_; refine WA_k (fuel := 3) [1,2,3,4,5,6,7,8,9,10,11,12,13,14] rfl (by kernel_rfl) ?_; refine ym rfl rfl rfl ?_; refine yp rfl (v_nil rfl rfl) rfl ?_; refine yp rfl (v_fa (q := 0) rfl underlying142 rfl rfl sizeOf22 rfl) rfl ?_; refine yv rfl (ld rfl rfl isAgg22) rfl ?_; refine ym rfl rfl rfl ?_; refine ym rfl rfl rfl ?_; refine yp rfl (v_slp rfl underlying22 sizeOf5 rfl .none (.some rfl) (.some rfl) (by omega) (by omega) (by omega) (by decide)) rfl ?_
      refine ym rfl rfl rfl ?_; refine yp rfl (v_nil rfl rfl) rfl ?_; refine yp rfl (v_fa (q := 0) rfl underlying142 rfl rfl sizeOf22 rfl) rfl ?_; refine yv rfl (ld rfl rfl isAgg22) rfl ?_; refine ym rfl rfl rfl ?_; refine ym rfl rfl rfl ?_; refine yp rfl (v_slp rfl underlying22 sizeOf5 rfl .none (.some rfl) (.some rfl) (by omega) (by omega) (by omega) (by decide)) rfl ?_; refine WK_nil ?_; refine WA_one (k := 15) rfl (by kernel_rfl) ?_; rw [pmv_win (by omega : wr + t < 32768), pmv_win (by omega : src < 32768)]; refine ws (v_cp rfl rfl underlying22 sizeOf5 rfl rfl (k := c) (by omega) (rd_win (s := src) (c := c) (AtH.there (h := AtH.there (h := AtH.here))) (by omega) rfl) (fun u hu => by obtain ⟨_, _, rfl⟩ := List.mem_map.1 hu; rfl) (by simp; omega)) rfl rfl rfl ?_; rintro _ _ ⟨rfl, rfl⟩; rw [put_map]; refine WO_nil (sq_n ?_); refine WA_k (fuel := 0) [16,17] rfl (by kernel_rfl) ?_
      refine yp rfl (n_add rfl rfl rfl kI (by omega)) rfl ?_; refine yp rfl (v_as rfl rfl) rfl ?_; refine WK_nil ?_; refine WA_nil (by kernel_rfl) (bl_n (sq_n (?_))); rw [Nat.add_assoc wr t c]; refine ⟨e - wr - (t + c), by omega, t + c, _, g + g, by omega, rfl, hw2, ?_, ⟨rfl, rfl, rfl, rfl, rfl, trivial⟩, rfl⟩; intro h; obtain rfl : c = g := by omega
      exact ⟨by rw [Nat.add_mod, g1]; simp, by omega, by omega, by omega⟩
    · replace hc1 := of_decide_eq_false hc1; obtain rfl : t = e - wr := by omega
      refine W_exit (sq_x (sq_x (bl_x (sq_n (hK10 _ _ ?_))))); refine W.keep [0,7,8] rfl ?_; refine W_seq fun K13 hK13 => ?_; refine W_region ?_; refine xm rfl rfl ?_; refine xm rfl rfl ?_; refine xn rfl rfl ?_; refine xp (v_fa (q := 1) rfl underlying142 rfl rfl sizeOf3 rfl) rfl ?_; refine wst rfl rfl rfl sizeOf3 rfl rfl rfl ?_; refine WO_nil (sq_n (hK13 _ _ ?_)); refine W.keep [7,8] rfl ?_; refine W_seq fun K14 hK14 => ?_; refine W_region ?_; refine xm rfl rfl ?_; refine xm rfl rfl ?_; refine xp (n_sub rfl rfl rfl kI (by omega) (by omega)) rfl ?_; refine xa rfl rfl ?_; refine WO_nil (sq_n (hK14 _ _ ?_)); refine W.keep [6] rfl ?_; refine W_ret (ret_of (v := _) rfl ?_); have e1 : wr + (e - wr) = e := by omega
      rw [e1] at hw ⊢; exact ⟨rfl, _, hw, rfl⟩
end
end Go.Proofs.YtpbahgddoamhgaaGreatDoor
namespace Go.Proofs.YtpbahgddoamhgaaGreatDoor
open Go.Proofs.Tryz
open Go Sx Pu
set_option maxRecDepth 10000

section
variable {p : Option Addr} {cap : Nat} {L : List Nat} {D : Hl}
theorem update_spec {s1 s2 : Nat} (hcap : L.length ≤ cap) (hd : Dat p L D) (hL : ∀ x ∈ L, x < 256) (hl : L.length < 2 ^ 62) (h1 : s1 < 65521) (h2 : s2 < 65521) :
    CallsL Tryz.prog 62 #[wV (s2 * 65536 + s1), .slice p L.length cap] D fun v H' => v = wV ((adl L (s1, s2)).2 * 65536 + (adl L (s1, s2)).1) ∧ H' = D := by
  refine CallsL_of func62 rfl ntmps62 rfl ?_
  try dsimp only [initE, Nat.zero_add]
  refine W_seq fun K1 hK1 => ?_; refine W_region ?_; refine xa rfl rfl ?_; refine WO_nil (sq_n (hK1 _ _ ?_)); refine W_seq fun K2 hK2 => ?_; refine W_region ?_; refine xm rfl rfl ?_; refine xp (n_mask 16 rfl rfl rfl kW (by omega) (by decide) (by decide)) rfl ?_; refine xm rfl rfl ?_; refine xp (n_shr rfl rfl rfl (by decide)) rfl ?_; refine xa rfl rfl ?_; refine xa rfl rfl ?_; refine WO_nil (sq_n (hK2 _ _ ?_)); refine W.keep [1,4,5,6] rfl ?_; refine W_seq fun K3 hK3 => ?_; refine W_block ?_
  refine W_loop (fun m E H => ∃ i pp cc, i ≤ L.length ∧ m = L.length - i ∧ Dat pp (L.drop i) D ∧ L.length - i ≤ cc ∧ Sub E [(1, .slice pp (L.length - i) cc), (5, wV (adl (L.take i) (s1, s2)).1), (6, wV (adl (L.take i) (s1, s2)).2)] ∧ D = H) (m := _) (⟨0, p, cap, by omega, rfl, hd, hcap, ⟨rfl, (by show some _ = some _; congr 2; show ((_ : Nat) : Int) = ((s1 : Nat) : Int); congr 1; omega), (by show some _ = some _; congr 2; show ((_ : Nat) : Int) = ((s2 : Nat) : Int); congr 1; omega), trivial⟩, rfl⟩) ?_; rintro m E H ⟨i, pp, cc, hi, rfl, hpp, hcc, hE, rfl⟩; refine W.env hE ?_; have hs := adl_lt (L.take i) (s1, s2) h1 h2; refine W_seq fun K4 hK4 => ?_; refine W_seq fun K5 hK5 => ?_; refine W_region ?_; refine xm rfl rfl ?_; refine xp (v_len rfl underlying22 rfl) rfl ?_; refine xp (n_gt rfl rfl rfl) rfl ?_; refine WO_nil (sq_n (hK5 _ _ ?_)); refine W_cond rfl (fun hc0 => ?_) (fun hc0 => ?_)
  · replace hc0 := of_decide_eq_true hc0; refine W_skip (sq_n (hK4 _ _ ?_)); refine W_block ?_; refine W_seq fun K6 hK6 => ?_; refine W_region ?_; refine xa rfl rfl ?_; refine WO_nil (sq_n (hK6 _ _ ?_)); refine W_seq_mid (fun E H => ∃ n pp cc qq qc, n = min 5552 (L.length - i) ∧ Dat pp ((L.drop i).take n) D ∧ n ≤ cc ∧ Dat qq (L.drop (i + n)) D ∧ L.length - (i + n) ≤ qc ∧ Sub E [(1, .slice pp n cc), (5, wV (adl (L.take i) (s1, s2)).1), (6, wV (adl (L.take i) (s1, s2)).2), (7, .slice qq (L.length - (i + n)) qc)] ∧ D = H) ?_ ?_
    · refine W_seq fun K8 hK8 => ?_; refine W_region ?_; refine xm rfl rfl ?_; refine xp (v_len rfl underlying22 rfl) rfl ?_; refine xp (n_gt rfl rfl rfl) rfl ?_; refine WO_nil (sq_n (hK8 _ _ ?_)); refine W_cond rfl (fun hc1 => ?_) (fun hc1 => ?_)
      · replace hc1 := of_decide_eq_true hc1; refine W_draw mixed ?_; refine WA_k (fuel := 0) [0,1,2,3,4,5] rfl (by kernel_rfl) ?_; refine ym rfl rfl rfl ?_; refine yp rfl (v_slp rfl underlying22 sizeOf5 rfl .none (.some rfl) .none (by omega) (by omega) (by omega) (by decide)) rfl ?_; refine ym rfl rfl rfl ?_; refine yp rfl (v_slp rfl underlying22 sizeOf5 rfl .none .none (.some rfl) (by omega) (by omega) (by omega) (by decide)) rfl ?_; refine yp rfl (v_as rfl rfl) rfl ?_; refine yp rfl (v_as rfl rfl) rfl ?_; refine WK_nil ?_; refine WA_nil (by kernel_rfl) (sq_n (?_)); first
        | (have hq : 5552 < L.length - i := hc1
           refine ⟨5552, _, _, _, _, by omega, hpp.head (by simp; omega) (by omega), ?_, ?_, ?_, ⟨rfl, rfl, rfl, (by rw [show L.length - (i + 5552) = L.length - i - 5552 by omega]; rfl), trivial⟩, rfl⟩
           · omega
           · rw [← List.drop_drop]; exact hpp.tail (by simp; omega)
           · omega)
        | (refine ⟨L.length - i, pp, cc, none, 0, by omega, ?_, hcc, ?_, by omega, ⟨rfl, rfl, rfl, (by rw [show L.length - (i + (L.length - i)) = 0 by omega]; rfl), trivial⟩, rfl⟩
           · rw [List.take_of_length_le (by simp)]; exact hpp
           · rw [List.drop_eq_nil_of_le (by omega)]; exact DatV.nil)
      · replace hc1 := of_decide_eq_false hc1; refine W_skip (sq_n (?_)); first
        | (have hq : 5552 < L.length - i := hc1
           refine ⟨5552, _, _, _, _, by omega, hpp.head (by simp; omega) (by omega), ?_, ?_, ?_, ⟨rfl, rfl, rfl, (by rw [show L.length - (i + 5552) = L.length - i - 5552 by omega]; rfl), trivial⟩, rfl⟩
           · omega
           · rw [← List.drop_drop]; exact hpp.tail (by simp; omega)
           · omega)
        | (refine ⟨L.length - i, pp, cc, none, 0, by omega, ?_, hcc, ?_, by omega, ⟨rfl, rfl, rfl, (by rw [show L.length - (i + (L.length - i)) = 0 by omega]; rfl), trivial⟩, rfl⟩
           · rw [List.take_of_length_le (by simp)]; exact hpp
           · rw [List.drop_eq_nil_of_le (by omega)]; exact DatV.nil)
    · clear hpp hcc; rintro E H ⟨n, pp, cc, qq, qc, hn, hpp, hcc, hqq, hqc, hE, rfl⟩; refine W.env hE ?_; obtain ⟨C, hC⟩ : ∃ C, C = (L.drop i).take n := ⟨_, rfl⟩; rw [← hC] at hpp; have hCl : C.length = n := by rw [hC]; simp; omega
      have hCb : ∀ m, ∀ x ∈ C.take m, x < 256 := fun m x hx => hL x (by rw [hC] at hx; exact List.mem_of_mem_drop (List.mem_of_mem_take (List.mem_of_mem_take hx))); obtain ⟨a, ha⟩ : ∃ a, a = adl (L.take i) (s1, s2) := ⟨_, rfl⟩; rw [← ha] at hs ⊢; have hsm : ∀ m, (acc (C.take m) a).1 < 4294967296 ∧ (acc (C.take m) a).2 < 4294967296 := fun m => acc_small (hCb m) (by simp; omega) hs.1 hs.2; have hadl : adl (L.take (i + n)) (s1, s2) = ((acc C a).1 % 65521, (acc C a).2 % 65521) := by
        rw [List.take_add, adl_app, ← ha, ← hC, ← acc_mod, Nat.mod_eq_of_lt hs.1, Nat.mod_eq_of_lt hs.2]
      refine W_seq fun K9 hK9 => ?_; refine W_block ?_; refine W_loop (fun m E H => ∃ j pp cc, j ≤ n ∧ m = n - j ∧ Dat pp (C.drop j) D ∧ n - j ≤ cc ∧ Sub E [(1, .slice pp (n - j) cc), (5, wV (acc (C.take j) a).1), (6, wV (acc (C.take j) a).2), (7, .slice qq (L.length - (i + n)) qc)] ∧ D = H) (m := _) (⟨0, pp, cc, by omega, rfl, hpp, hcc, ⟨rfl, rfl, rfl, rfl, trivial⟩, rfl⟩) ?_; clear hpp hcc; rintro m E H ⟨j, pp, cc, hj, rfl, hpp, hcc, hE, rfl⟩; refine W.env hE ?_; refine W_seq fun K10 hK10 => ?_; refine W_seq fun K11 hK11 => ?_; refine W_region ?_; refine xm rfl rfl ?_; refine xp (v_len rfl underlying22 rfl) rfl ?_; refine xp (n_ge rfl rfl rfl) rfl ?_; refine WO_nil (sq_n (hK11 _ _ ?_)); refine W_cond rfl (fun hc2 => ?_) (fun hc2 => ?_)
      · replace hc2 := of_decide_eq_true hc2; refine W_skip (sq_n (hK10 _ _ ?_)); refine W_block ?_; refine W_seq fun K12 hK12 => ?_; obtain ⟨b2, off, c2, ty2, fz2, r2, rfl, hat, hcc2⟩ := hpp.at (by simp; omega); have hg : ∀ u, u < 4 → c2[off + u]? = some (bV (C.getD (j + u) 0)) := fun u hu => by rw [hcc2 u (by simp; omega)]; simp [List.getD_eq_getElem?_getD]
        have hb : ∀ u, C.getD u 0 < 256 := fun u => by
          rcases Nat.lt_or_ge u C.length with h | h
          · rw [getD_lt h]; exact hCb n _ (by rw [List.take_of_length_le (by omega)]; exact List.getElem_mem h)
          · rw [List.getD_eq_getElem?_getD, List.getElem?_eq_none h]; decide
        have hst : ∀ u, u < n → acc (C.take (u + 1)) a = ((acc (C.take u) a).1 + C.getD u 0, (acc (C.take u) a).2 + ((acc (C.take u) a).1 + C.getD u 0)) := fun u hu => by rw [take_snoc (by omega), acc_snoc]
        have t1 := hst j (by omega); have t2 := hst (j + 1) (by omega); have t3 := hst (j + 1 + 1) (by omega); have t4 := hst (j + 1 + 1 + 1) (by omega); have b1 := hb j; have b2 := hb (j + 1); have b3 := hb (j + 1 + 1); have b4 := hb (j + 1 + 1 + 1); have u1 := hsm (j + 1); have u2 := hsm (j + 1 + 1); have u3 := hsm (j + 1 + 1 + 1); have u4 := hsm (j + 1 + 1 + 1 + 1); rw [t1] at u1 t2; rw [t2] at u2 t3; rw [t3] at u3 t4; rw [t4] at u4; simp only at u1 u2 u3 u4 t2 t3 t4; refine W_region ?_; refine xm rfl rfl ?_; refine xm rfl rfl ?_; refine xp (v_ixs rfl underlying22 sizeOf5 rfl rfl (by omega)) rfl ?_; refine xv (v_ld rfl rfl isAgg5 (v := bV (C.getD j 0)) (hg 0 (by decide))) rfl ?_; refine xp (n_cv rfl underlying5 underlying29 rfl kW (by omega)) rfl ?_; refine xp (n_add rfl rfl rfl kW (by omega)) rfl ?_; refine xa rfl rfl ?_; refine WO_nil (sq_n (hK12 _ _ ?_))
        refine W_seq fun K13 hK13 => ?_; refine W_region ?_; refine xm rfl rfl ?_; refine xm rfl rfl ?_; refine xp (n_add rfl rfl rfl kW (by omega)) rfl ?_; refine xa rfl rfl ?_; refine WO_nil (sq_n (hK13 _ _ ?_)); refine W_seq fun K14 hK14 => ?_; refine W_region ?_; refine xm rfl rfl ?_; refine xm rfl rfl ?_; refine xp (v_ixs rfl underlying22 sizeOf5 rfl rfl (by omega)) rfl ?_; refine xv (v_ld rfl rfl isAgg5 (v := bV (C.getD (j + 1) 0)) (hg 1 (by decide))) rfl ?_; refine xp (n_cv rfl underlying5 underlying29 rfl kW (by omega)) rfl ?_; refine xp (n_add rfl rfl rfl kW (by omega)) rfl ?_; refine xa rfl rfl ?_; refine WO_nil (sq_n (hK14 _ _ ?_)); refine W_seq fun K15 hK15 => ?_; refine W_region ?_; refine xm rfl rfl ?_; refine xm rfl rfl ?_; refine xp (n_add rfl rfl rfl kW (by omega)) rfl ?_; refine xa rfl rfl ?_; refine WO_nil (sq_n (hK15 _ _ ?_)); refine W_seq fun K16 hK16 => ?_
        refine W_region ?_; refine xm rfl rfl ?_; refine xm rfl rfl ?_; refine xp (v_ixs rfl underlying22 sizeOf5 rfl rfl (by omega)) rfl ?_; refine xv (v_ld rfl rfl isAgg5 (v := bV (C.getD (j + 1 + 1) 0)) (hg 2 (by decide))) rfl ?_; refine xp (n_cv rfl underlying5 underlying29 rfl kW (by omega)) rfl ?_; refine xp (n_add rfl rfl rfl kW (by omega)) rfl ?_; refine xa rfl rfl ?_; refine WO_nil (sq_n (hK16 _ _ ?_)); refine W_seq fun K17 hK17 => ?_; refine W_region ?_; refine xm rfl rfl ?_; refine xm rfl rfl ?_; refine xp (n_add rfl rfl rfl kW (by omega)) rfl ?_; refine xa rfl rfl ?_; refine WO_nil (sq_n (hK17 _ _ ?_)); refine W_seq fun K18 hK18 => ?_; refine W_region ?_; refine xm rfl rfl ?_; refine xm rfl rfl ?_; refine xp (v_ixs rfl underlying22 sizeOf5 rfl rfl (by omega)) rfl ?_; refine xv (v_ld rfl rfl isAgg5 (v := bV (C.getD (j + 1 + 1 + 1) 0)) (hg 3 (by decide))) rfl ?_
        refine xp (n_cv rfl underlying5 underlying29 rfl kW (by omega)) rfl ?_; refine xp (n_add rfl rfl rfl kW (by omega)) rfl ?_; refine xa rfl rfl ?_; refine WO_nil (sq_n (hK18 _ _ ?_)); refine W_seq fun K19 hK19 => ?_; refine W_region ?_; refine xm rfl rfl ?_; refine xm rfl rfl ?_; refine xp (n_add rfl rfl rfl kW (by omega)) rfl ?_; refine xa rfl rfl ?_; refine WO_nil (sq_n (hK19 _ _ ?_)); refine W_region ?_; refine xm rfl rfl ?_; refine xp (v_slp rfl underlying22 sizeOf5 rfl .none .none (.some rfl) (by omega) (by omega) (by omega) (by decide)) rfl ?_; refine xa rfl rfl ?_; refine WO_nil (bl_n (sq_n (?_))); have t5 : acc (C.take (j + 4)) a = _ := t4
        exact ⟨n - (j + 4), by omega, j + 4, _, cc - 4, by omega, rfl, (by rw [← List.drop_drop]; exact hpp.tail (m := cc) (by simp; omega)), by omega, ⟨(by rw [show n - (j + 4) = n - j - 4 by omega]; rfl), (by rw [t5]; rfl), (by rw [t5]; rfl), rfl, trivial⟩, rfl⟩
      · replace hc2 := of_decide_eq_false hc2; refine W_exit (sq_x (sq_x (bl_x (sq_n (hK9 _ _ ?_))))); refine W_seq fun K20 hK20 => ?_; refine W_seq fun K21 hK21 => ?_; refine W_region ?_; refine xm rfl rfl ?_; refine xp (v_len rfl underlying22 rfl) rfl ?_; refine xm rfl rfl ?_; refine WO_nil (sq_n (hK21 _ _ ?_)); refine W_block ?_; refine W_loop (fun m E H => ∃ u, u ≤ n - j ∧ m = n - j - u ∧ Sub E [(5, wV (acc (C.take (j + u)) a).1), (6, wV (acc (C.take (j + u)) a).2), (7, .slice qq (L.length - (i + n)) qc), (65, .slice pp (n - j) cc), (66, iV (n - j)), (67, iV u)] ∧ D = H) (m := _) (⟨0, by omega, rfl, ⟨rfl, rfl, rfl, rfl, rfl, rfl, trivial⟩, rfl⟩) ?_; rintro m E H ⟨u, hu, rfl, hE, rfl⟩; refine W.env hE ?_; refine W_seq fun K22 hK22 => ?_; refine W_region ?_; refine xp (n_lt rfl rfl rfl) rfl ?_; refine WO_nil (sq_n (hK22 _ _ ?_)); refine W_seq fun K23 hK23 => ?_
        refine W_cond rfl (fun hc3 => ?_) (fun hc3 => ?_)
        · replace hc3 := of_decide_eq_true hc3; refine W_skip (sq_n (hK23 _ _ ?_)); refine W_seq fun K24 hK24 => ?_; refine W_block ?_; refine W_seq fun K25 hK25 => ?_; obtain ⟨b2, off, c2, ty2, fz2, r2, rfl, hat, hcc2⟩ := hpp.at (by simp; omega); have hg : c2[off + u]? = some (bV (C.getD (j + u) 0)) := by rw [hcc2 u (by simp; omega)]; simp [List.getD_eq_getElem?_getD]
          have hb : C.getD (j + u) 0 < 256 := by rw [getD_lt (by omega)]; exact hCb n _ (by rw [List.take_of_length_le (by omega)]; exact List.getElem_mem _)
          have hst : acc (C.take (j + u + 1)) a = ((acc (C.take (j + u)) a).1 + C.getD (j + u) 0, (acc (C.take (j + u)) a).2 + ((acc (C.take (j + u)) a).1 + C.getD (j + u) 0)) := by rw [take_snoc (by omega), acc_snoc]
          have hu1 := hsm (j + u + 1); rw [hst] at hu1; simp only at hu1; refine W_region ?_; refine xp (v_ixs rfl underlying22 sizeOf5 rfl rfl (by omega)) rfl ?_; refine xv (v_ld rfl rfl isAgg5 hg) rfl ?_; refine xa rfl rfl ?_; refine WO_nil (sq_n (hK25 _ _ ?_)); refine W_seq fun K26 hK26 => ?_; refine W_region ?_; refine xm rfl rfl ?_; refine xm rfl rfl ?_; refine xp (n_cv rfl underlying5 underlying29 rfl kW (by omega)) rfl ?_; refine xp (n_add rfl rfl rfl kW (by omega)) rfl ?_; refine xa rfl rfl ?_; refine WO_nil (sq_n (hK26 _ _ ?_)); refine W_region ?_; refine xm rfl rfl ?_; refine xm rfl rfl ?_; refine xp (n_add rfl rfl rfl kW (by omega)) rfl ?_; refine xa rfl rfl ?_; refine WO_nil (bl_n (sq_n (hK24 _ _ ?_))); refine W_region ?_; refine xp (n_add rfl rfl rfl kI (by omega)) rfl ?_; refine xm rfl rfl ?_; refine WO_nil (sq_n (?_))
          exact ⟨_, by omega, u + 1, by omega, rfl, ⟨(by rw [show j + (u + 1) = j + u + 1 from rfl, hst]; rfl), (by rw [show j + (u + 1) = j + u + 1 from rfl, hst]; rfl), rfl, rfl, rfl, rfl, trivial⟩, rfl⟩
        · replace hc3 := of_decide_eq_false hc3; have hju : j + u = n := by omega
          rw [hju, List.take_of_length_le (by omega)]; refine W_exit (sq_x (sq_x (bl_x (sq_n (hK20 _ _ ?_))))); refine W_seq fun K27 hK27 => ?_; refine W_region ?_; refine xm rfl rfl ?_; refine xp (n_rem rfl rfl rfl (by omega)) rfl ?_; refine xa rfl rfl ?_; refine WO_nil (sq_n (hK27 _ _ ?_)); refine W_seq fun K28 hK28 => ?_; refine W_region ?_; refine xm rfl rfl ?_; refine xp (n_rem rfl rfl rfl (by omega)) rfl ?_; refine xa rfl rfl ?_; refine WO_nil (sq_n (hK28 _ _ ?_)); refine W_region ?_; refine xm rfl rfl ?_; refine xa rfl rfl ?_; refine WO_nil (bl_n (sq_n (?_))); exact ⟨_, by omega, i + n, qq, qc, by omega, rfl, hqq, hqc, ⟨rfl, (by rw [hadl]; rfl), (by rw [hadl]; rfl), trivial⟩, rfl⟩
  · replace hc0 := of_decide_eq_false hc0; obtain rfl : i = L.length := by omega
    rw [List.take_length] at hs ⊢; refine W_exit (sq_x (sq_x (bl_x (sq_n (hK3 _ _ ?_))))); refine W.keep [5,6] rfl ?_; refine W_seq fun K29 hK29 => ?_; refine W_region ?_; refine xm rfl rfl ?_; refine xp (n_shl rfl rfl rfl kW (by decide) (by omega)) rfl ?_; refine xm rfl rfl ?_; refine xp (n_oradd2 (s := 16) rfl rfl rfl kW (by omega) (by omega) (by omega)) rfl ?_; refine xa rfl rfl ?_; refine WO_nil (sq_n (hK29 _ _ ?_)); refine W.keep [4] rfl ?_; refine W_ret (ret_of (v := _) rfl ?_); exact ⟨rfl, rfl⟩
abbrev digO (x : Nat) : Obj := .cells (List.toArray [wV x]) 133 (0, 0)
/-- the two sums as one number -/
def pk (x : Nat × Nat) : Nat := x.2 * 65536 + x.1
theorem adReset_spec {x : Value} {gb : Nat} : CallsL Tryz.prog 66 #[.pointer (some ⟨gb, 0, none⟩)] ((gb, .cells (List.toArray [x]) 133 (0, 0)) :: D) fun _ H' => H' = (gb, digO 1) :: D := by
  refine CallsL_of func66 rfl ntmps66 rfl ?_
  try dsimp only [initE, Nat.zero_add]
  refine W_region ?_; refine xm rfl rfl ?_; refine xn rfl rfl ?_; refine wst rfl rfl rfl sizeOf133 rfl rfl rfl ?_; refine WO_nil (end_of (v := _) rfl ?_); exact rfl
theorem adNew_spec : CallsL Tryz.prog 57 #[] D fun v H' => ∃ gb, v = .iface 152 (.pointer (some ⟨gb, 0, none⟩)) ∧ H' = (gb, digO 1) :: D := by
  refine CallsL_of func57 rfl ntmps57 rfl ?_
  try dsimp only [initE, Nat.zero_add]
  refine W_seq fun K1 hK1 => ?_; refine W_region ?_; refine xa rfl rfl ?_; refine WO_nil (sq_n (hK1 _ _ ?_)); refine W_seq fun K2 hK2 => ?_; refine W_region ?_; refine wf (v_al rfl zeroValue133) rfl rfl rfl ?_; intro gb _; refine xa rfl rfl ?_; refine WO_nil (sq_n (hK2 _ _ ?_)); refine W_seq fun K3 hK3 => ?_; refine W_region ?_; refine xm rfl rfl ?_; refine wc (e_c rfl rfl rfl call66) rfl rfl rfl (adReset_spec (x := .int .u32 0)) .all ?_; rintro _ _ rfl; (try simp only [ap4]); refine WO_nil (sq_n (hK3 _ _ ?_)); refine W.keep [0,1] rfl ?_; refine W_seq fun K4 hK4 => ?_; refine W_region ?_; refine xm rfl rfl ?_; refine xp (v_mi rfl underlying152 rfl rfl) rfl ?_; refine xa rfl rfl ?_; refine WO_nil (sq_n (hK4 _ _ ?_)); refine W.keep [0] rfl ?_; refine W_ret (ret_of (v := _) rfl ?_); exact ⟨gb, rfl, rfl⟩
theorem adSum_spec {x gb : Nat} : CallsL Tryz.prog 124 #[.pointer (some ⟨gb, 0, none⟩)] ((gb, digO x) :: D) fun v H' => v = wV x ∧ H' = (gb, digO x) :: D := by
  refine CallsL_of func124 rfl ntmps124 rfl ?_
  try dsimp only [initE, Nat.zero_add]
  refine W_seq fun K1 hK1 => ?_; refine W_region ?_; refine xa rfl rfl ?_; refine WO_nil (sq_n (hK1 _ _ ?_)); refine W_seq fun K2 hK2 => ?_; refine W_region ?_; refine xm rfl rfl ?_; refine xn rfl rfl ?_; refine xv (ld rfl rfl isAgg133) rfl ?_; refine xa rfl rfl ?_; refine WO_nil (sq_n (hK2 _ _ ?_)); refine W.keep [2] rfl ?_; refine W_ret (ret_of (v := _) rfl ?_); exact ⟨rfl, rfl⟩
theorem adWrite_spec {x : Nat × Nat} {gb : Nat} (hcap : L.length ≤ cap) (hd : Dat p L D) (hL : ∀ x ∈ L, x < 256) (hl : L.length < 2 ^ 62) (h1 : x.1 < 65521) (h2 : x.2 < 65521) :
    CallsL Tryz.prog 125 #[.pointer (some ⟨gb, 0, none⟩), .slice p L.length cap] ((gb, digO (pk x)) :: D) fun _v H' => H' = (gb, digO (pk (adl L x))) :: D := by
  refine CallsL_of func125 rfl ntmps125 rfl ?_
  try dsimp only [initE, Nat.zero_add]
  refine W_seq fun K1 hK1 => ?_; refine W_region ?_; refine xa rfl rfl ?_; refine xa rfl rfl ?_; refine WO_nil (sq_n (hK1 _ _ ?_)); refine W_seq fun K2 hK2 => ?_; refine W_region ?_; refine xm rfl rfl ?_; refine xm rfl rfl ?_; refine xn rfl rfl ?_; refine xv (ld rfl rfl isAgg133) rfl ?_; refine xm rfl rfl ?_; refine wc (e_c rfl rfl rfl call62) rfl rfl rfl (update_spec (s1 := x.1) (s2 := x.2) hcap hd hL hl h1 h2) (.skip .all) ?_; rintro _ _ ⟨rfl, rfl⟩; (try simp only [ap4]); refine xn rfl rfl ?_; refine wst rfl rfl rfl sizeOf133 rfl rfl rfl ?_; refine WO_nil (sq_n (hK2 _ _ ?_)); refine W.keep [1,4,5] rfl ?_; refine W_seq fun K3 hK3 => ?_; refine W_region ?_; refine xm rfl rfl ?_; refine xp (v_len rfl underlying22 rfl) rfl ?_; refine xa rfl rfl ?_; refine xa rfl rfl ?_; refine WO_nil (sq_n (hK3 _ _ ?_)); refine W.keep [4,5] rfl ?_; refine W_ret (ret_of (v := _) rfl ?_); exact rfl
theorem checksumNil_spec : CallsL Tryz.prog 54 #[.slice none 0 0] D fun v H' => v = wV 1 ∧ H' = D := by
  refine CallsL_of func54 rfl ntmps54 rfl ?_
  try dsimp only [initE, Nat.zero_add]
  refine W_seq fun K1 hK1 => ?_; refine W_region ?_; refine xa rfl rfl ?_; refine WO_nil (sq_n (hK1 _ _ ?_)); refine W_seq fun K2 hK2 => ?_; refine W_region ?_; refine xm rfl rfl ?_; refine wc (e_c rfl rfl rfl call62) rfl rfl rfl (update_spec (p := none) (cap := 0) (L := []) (s1 := 1) (s2 := 0) (Nat.le_refl _) DatV.nil (by simp) (by simp) (by decide) (by decide)) .all ?_; rintro _ _ ⟨rfl, rfl⟩; (try simp only [ap4]); refine xa rfl rfl ?_; refine WO_nil (sq_n (hK2 _ _ ?_)); refine W.keep [2] rfl ?_; refine W_ret (ret_of (v := _) rfl ?_); exact ⟨rfl, rfl⟩
theorem u16_spec {b : Nat} {off : Nat} {c : List Value} {ty : TypeId} {fz : Nat × Nat} {r : Obj → Hl} {x0 x1 : Nat} (hat : AtH D b (.cells (List.toArray c) ty fz) r) (h0 : c[off]? = some (bV x0)) (h1 : c[off + 1]? = some (bV x1)) (l0 : x0 < 256) (l1 : x1 < 256) :
    CallsL Tryz.prog 52 #[.agg #[], .slice (some ⟨b, off, none⟩) 2 cap] D fun v H' => v = hV (x0 * 256 + x1) ∧ H' = D := by
  refine CallsL_of func52 rfl ntmps52 rfl ?_
  try dsimp only [initE, Nat.zero_add]
  refine W_seq fun K1 hK1 => ?_; refine W_region ?_; refine wf (v_bxa rfl rfl) rfl rfl rfl ?_; intro bx _; refine xa rfl rfl ?_; refine WO_nil (sq_n (hK1 _ _ ?_)); refine W_seq fun K2 hK2 => ?_; refine W.drop (.skip .all) ?_; refine W_region ?_; refine xm rfl rfl ?_; refine xp (v_ixs rfl underlying22 sizeOf5 rfl rfl (by omega)) rfl ?_; refine xv (v_ld rfl rfl isAgg5 h1) rfl ?_; refine WO_nil (sq_n (hK2 _ _ ?_)); refine W.keep [1,4] rfl ?_; refine W_seq fun K3 hK3 => ?_; refine W_draw mixed ?_; refine WA_k (fuel := 0) [0,1,2,3,4,5,6,7,8,9,10] rfl (by kernel_rfl) ?_; refine ym rfl rfl rfl ?_; refine yp rfl (v_ixs rfl underlying22 sizeOf5 rfl rfl (by omega)) rfl ?_; refine yv rfl (v_ld rfl rfl isAgg5 h1) rfl ?_; refine yp rfl (n_cv rfl underlying5 underlying115 rfl kH (by omega)) rfl ?_; refine ym rfl rfl rfl ?_; refine yp rfl (v_ixs rfl underlying22 sizeOf5 rfl rfl (by omega)) rfl ?_
  refine yv rfl (v_ld rfl rfl isAgg5 (v := bV x0) h0) rfl ?_; refine yp rfl (n_cv rfl underlying5 underlying115 rfl kH (by omega)) rfl ?_; refine yp rfl (n_shl rfl rfl rfl kH (by decide) (by omega)) rfl ?_; refine yp rfl (n_oradd rfl rfl rfl kH (by omega) (by omega) (by omega)) rfl ?_; refine yp rfl (v_as rfl rfl) rfl ?_; refine WK_nil ?_; refine WA_nil (by kernel_rfl) (sq_n (hK3 _ _ ?_)); refine W.keep [4] rfl ?_; refine W_ret (ret_of (v := _) rfl ?_); refine ⟨?_, rfl⟩; show hV _ = hV _; rw [show x1 + x0 * 2 ^ 8 = x0 * 256 + x1 by omega]
theorem u32_spec {b : Nat} {off : Nat} {c : List Value} {ty : TypeId} {fz : Nat × Nat} {r : Obj → Hl} {x0 x1 x2 x3 : Nat} (hat : AtH D b (.cells (List.toArray c) ty fz) r) (h0 : c[off]? = some (bV x0)) (h1 : c[off + 1]? = some (bV x1)) (h2 : c[off + 2]? = some (bV x2)) (h3 : c[off + 3]? = some (bV x3)) (l0 : x0 < 256) (l1 : x1 < 256) (l2 : x2 < 256) (l3 : x3 < 256) :
    CallsL Tryz.prog 53 #[.agg #[], .slice (some ⟨b, off, none⟩) 4 cap] D fun v H' => v = wV (x0 * 16777216 + x1 * 65536 + x2 * 256 + x3) ∧ H' = D := by
  refine CallsL_of func53 rfl ntmps53 rfl ?_
  try dsimp only [initE, Nat.zero_add]
  refine W_seq fun K1 hK1 => ?_; refine W_region ?_; refine wf (v_bxa rfl rfl) rfl rfl rfl ?_; intro bx _; refine xa rfl rfl ?_; refine WO_nil (sq_n (hK1 _ _ ?_)); refine W_seq fun K2 hK2 => ?_; refine W.drop (.skip .all) ?_; refine W_region ?_; refine xm rfl rfl ?_; refine xp (v_ixs rfl underlying22 sizeOf5 rfl rfl (by omega)) rfl ?_; refine xv (v_ld rfl rfl isAgg5 h3) rfl ?_; refine WO_nil (sq_n (hK2 _ _ ?_)); refine W.keep [1,4] rfl ?_; refine W_seq fun K3 hK3 => ?_; refine W_draw mixed ?_; refine WA_k (fuel := 0) [0,1,2,3,4,5,6,7,8,9,10,11,12,13,14,15,16,17,18,19,20,21,22] rfl (by kernel_rfl) ?_; refine ym rfl rfl rfl ?_; refine yp rfl (v_ixs rfl underlying22 sizeOf5 rfl rfl (by omega)) rfl ?_; refine yv rfl (v_ld rfl rfl isAgg5 h3) rfl ?_; refine yp rfl (n_cv rfl underlying5 underlying29 rfl kW (by omega)) rfl ?_; refine ym rfl rfl rfl ?_
  refine yp rfl (v_ixs rfl underlying22 sizeOf5 rfl rfl (by omega)) rfl ?_; refine yv rfl (v_ld rfl rfl isAgg5 h2) rfl ?_; refine yp rfl (n_cv rfl underlying5 underlying29 rfl kW (by omega)) rfl ?_; refine yp rfl (n_shl rfl rfl rfl kW (by decide) (by omega)) rfl ?_; refine yp rfl (n_oradd rfl rfl rfl kW (by omega) (by omega) (by omega)) rfl ?_; refine ym rfl rfl rfl ?_; refine yp rfl (v_ixs rfl underlying22 sizeOf5 rfl rfl (by omega)) rfl ?_; refine yv rfl (v_ld rfl rfl isAgg5 h1) rfl ?_; refine yp rfl (n_cv rfl underlying5 underlying29 rfl kW (by omega)) rfl ?_; refine yp rfl (n_shl rfl rfl rfl kW (by decide) (by omega)) rfl ?_; refine yp rfl (n_oradd rfl rfl rfl kW (by omega) (by omega) (by omega)) rfl ?_; refine ym rfl rfl rfl ?_; refine yp rfl (v_ixs rfl underlying22 sizeOf5 rfl rfl (by omega)) rfl ?_; refine yv rfl (v_ld rfl rfl isAgg5 (v := bV x0) h0) rfl ?_
  refine yp rfl (n_cv rfl underlying5 underlying29 rfl kW (by omega)) rfl ?_; refine yp rfl (n_shl rfl rfl rfl kW (by decide) (by omega)) rfl ?_; refine yp rfl (n_oradd rfl rfl rfl kW (by omega) (by omega) (by omega)) rfl ?_; refine yp rfl (v_as rfl rfl) rfl ?_; refine WK_nil ?_; refine WA_nil (by kernel_rfl) (sq_n (hK3 _ _ ?_)); refine W.keep [4] rfl ?_; refine W_ret (ret_of (v := _) rfl ?_); refine ⟨?_, rfl⟩; show wV _ = wV _; rw [show x3 + x2 * 2 ^ 8 + x1 * 2 ^ 16 + x0 * 2 ^ 24 = x0 * 16777216 + x1 * 65536 + x2 * 256 + x3 by omega]
end
end Go.Proofs.YtpbahgddoamhgaaGreatDoor
namespace Go.Proofs.YtpbahgddoamhgaaGreatDoor.Pu

/-- k bits the other way round -/
def rv : Nat → Nat → Nat
  | 0, _ => 0
  | k + 1, v => v % 2 * 2 ^ k + rv k (v / 2)
theorem rv_lt : ∀ (k v : Nat), rv k v < 2 ^ k
  | 0, _ => by simp [rv]
  | k + 1, v => by
    have := rv_lt k (v / 2); have h2 : v % 2 * 2 ^ k ≤ 1 * 2 ^ k := Nat.mul_le_mul_right _ (by omega); rw [rv, Nat.pow_succ]; omega
theorem rv_zero : ∀ k, rv k 0 = 0
  | 0 => rfl
  | k + 1 => by rw [rv, Nat.zero_div, rv_zero k]; simp
theorem rv_split : ∀ (k m v : Nat), rv (k + m) v = rv k v * 2 ^ m + rv m (v / 2 ^ k)
  | 0, m, v => by simp [rv]
  | k + 1, m, v => by
    rw [show k + 1 + m = (k + m) + 1 by omega, rv, rv, rv_split k m, Nat.add_mul, Nat.mul_assoc, ← Nat.pow_add, Nat.div_div_eq_div_mul, Nat.pow_succ, Nat.mul_comm 2, Nat.add_assoc]
theorem rv_mod : ∀ (k v : Nat), rv k (v % 2 ^ k) = rv k v
  | 0, _ => rfl
  | k + 1, v => by
    have h1 : v % 2 ^ (k + 1) % 2 = v % 2 := Nat.mod_mod_of_dvd v ⟨2 ^ k, by rw [Nat.pow_succ, Nat.mul_comm]⟩; have h2 : v % 2 ^ (k + 1) / 2 = v / 2 % 2 ^ k := by rw [Nat.pow_succ, Nat.mul_comm, Nat.mod_mul_right_div_self]
    rw [rv, rv, h1, h2, rv_mod k]
theorem rv_rv : ∀ (k v : Nat), v < 2 ^ k → rv k (rv k v) = v
  | 0, v, h => by simp at h; simp [rv, h]
  | k + 1, v, h => by
    have h2 : v / 2 < 2 ^ k := by rw [Nat.pow_succ] at h; omega
    have h3 := rv_lt k (v / 2); have ih := rv_rv k (v / 2) h2; have e : rv (k + 1) v = v % 2 * 2 ^ k + rv k (v / 2) := rfl; rw [rv_split k 1, e]; have e1 : rv k (v % 2 * 2 ^ k + rv k (v / 2)) = v / 2 := by
      rw [← rv_mod k, Nat.add_comm, Nat.add_mul_mod_self_right, rv_mod k, ih]
    have e2 : (v % 2 * 2 ^ k + rv k (v / 2)) / 2 ^ k = v % 2 := by
      rw [Nat.add_comm, Nat.add_mul_div_right _ _ (Nat.two_pow_pos k), Nat.div_eq_of_lt h3, Nat.zero_add]
    rw [e1, e2]; simp only [rv]; omega
theorem rv_top (k m v : Nat) : rv (k + m) v / 2 ^ m = rv k v := by
  rw [rv_split, Nat.add_comm, Nat.add_mul_div_right _ _ (Nat.two_pow_pos m), Nat.div_eq_of_lt (rv_lt _ _), Nat.zero_add]
theorem rv_eq_iff {k v c : Nat} (hc : c < 2 ^ k) : rv k v = c ↔ v % 2 ^ k = rv k c := by
  constructor
  · intro h; have := rv_rv k (v % 2 ^ k) (Nat.mod_lt _ (Nat.two_pow_pos k)); rw [rv_mod, h] at this; exact this.symm
  · intro h; rw [← rv_mod, h, rv_rv k c hc]

/-! sums -/
def ks (L : List Nat) (j : Nat) : Nat → Nat
  | 0 => 0
  | k + 1 => if 1 ≤ L.getD k 0 ∧ L.getD k 0 ≤ j then ks L j k + 2 ^ (j - L.getD k 0) else ks L j k
theorem ks_succ (L : List Nat) (j : Nat) : ∀ k, ks L (j + 1) k = 2 * ks L j k + rank L (j + 1) k
  | 0 => rfl
  | k + 1 => by
    have ih := ks_succ L j k; simp only [ks, rank]; by_cases h1 : L.getD k 0 = j + 1
    · rw [if_pos (by omega), if_neg (by omega), if_pos h1, ih, h1, Nat.sub_self]; omega
    · rw [if_neg h1]; by_cases h2 : 1 ≤ L.getD k 0 ∧ L.getD k 0 ≤ j
      · rw [if_pos h2, if_pos (by omega), ih, show j + 1 - L.getD k 0 = (j - L.getD k 0) + 1 by omega, Nat.pow_succ]; omega
      · rw [if_neg h2, if_neg (by omega), ih]; rfl
theorem ks_zero (L : List Nat) : ∀ k, ks L 0 k = 0
  | 0 => rfl
  | k + 1 => by simp only [ks]; rw [if_neg (by omega), ks_zero L k]
theorem cn_ks (L : List Nat) : ∀ j, cn L j = ks L j L.length
  | 0 => by rw [ks_zero]; rfl
  | j + 1 => by rw [cn, ks_succ, cn_ks L j]; omega
theorem getD_le {L : List Nat} {m : Nat} (h : ∀ x ∈ L, x ≤ m) (k : Nat) : L.getD k 0 ≤ m := by
  rcases Nat.lt_or_ge k L.length with h1 | h1
  · rw [List.getD_eq_getElem?_getD, List.getElem?_eq_getElem h1]; exact h _ (List.getElem_mem h1)
  · rw [List.getD_eq_getElem?_getD, List.getElem?_eq_none h1]; simp
theorem ksum_ks {L : List Nat} (h : ∀ x ∈ L, x ≤ 15) : ∀ k, ksum L k = ks L 15 k
  | 0 => rfl
  | k + 1 => by
    have := getD_le h k; simp only [ksum, ks, ksum_ks h k]; by_cases h1 : 0 < L.getD k 0
    · rw [if_pos h1, if_pos (by omega)]
    · rw [if_neg h1, if_neg (by omega)]
theorem ksum_cn {L : List Nat} (h : ∀ x ∈ L, x ≤ 15) : ksum L L.length = cn L 15 := by rw [cn_ks, ksum_ks h]
theorem rank_zero {L : List Nat} {l : Nat} (h : ∀ i, L.getD i 0 ≠ l) : ∀ k, rank L l k = 0
  | 0 => rfl
  | k + 1 => by simp only [rank]; rw [if_neg (h k), rank_zero h k]
/-- beyond the longest code the numbers double -/
theorem cn_max {L : List Nat} {M : Nat} (h : ∀ i, L.getD i 0 ≤ M) : ∀ d, cn L (M + d) = cn L M * 2 ^ d
  | 0 => by simp
  | d + 1 => by
    rw [← Nat.add_assoc, cn, cn_max h d, rank_zero (fun i e => by have := h i; omega), Nat.pow_succ]; rw [Nat.mul_assoc]; omega
/-- below the shortest code there are none -/
theorem cn_min {L : List Nat} {m : Nat} (h : ∀ i, L.getD i 0 = 0 ∨ m ≤ L.getD i 0) : ∀ j, j < m → cn L j = 0
  | 0, _ => rfl
  | j + 1, hj => by
    rw [cn, cn_min h j (by omega), rank_zero (fun i e => by have := h i; omega)]
/-- where the codes up to a length end, as parts of 2^15 -/
def bd (L : List Nat) (j : Nat) : Nat := cn L j * 2 ^ (15 - j)
theorem bd_succ (L : List Nat) {j : Nat} (h : j < 15) : bd L (j + 1) = bd L j + rank L (j + 1) L.length * 2 ^ (15 - (j + 1)) := by
  unfold bd; rw [cn, Nat.add_mul, show 15 - j = (15 - (j + 1)) + 1 by omega, Nat.pow_succ, Nat.mul_assoc, Nat.mul_comm 2]
theorem bd_mono (L : List Nat) {i j : Nat} (h : i ≤ j) (hj : j ≤ 15) : bd L i ≤ bd L j := by
  induction j with
  | zero => rw [show i = 0 by omega]; exact Nat.le_refl _
  | succ j ih =>
    rcases Nat.lt_or_ge i (j + 1) with h1 | h1
    · exact Nat.le_trans (ih (by omega) (by omega)) (by rw [bd_succ L (by omega)]; omega)
    · rw [show i = j + 1 by omega]; exact Nat.le_refl _
theorem cn_le2 {L : List Nat} (hK : cn L 15 ≤ 2 ^ 15) {j : Nat} (hj : j ≤ 15) : cn L j ≤ 2 ^ j := by
  have h1 := bd_mono L hj (Nat.le_refl 15); unfold bd at h1; rw [Nat.sub_self, Nat.pow_zero, Nat.mul_one] at h1; have h2 : cn L j * 2 ^ (15 - j) ≤ 2 ^ j * 2 ^ (15 - j) := by rw [← Nat.pow_add, Nat.add_sub_cancel' hj]; omega
  exact Nat.le_of_mul_le_mul_right h2 (Nat.two_pow_pos _)

/-- the symbol s is what the bits b begin with (the first bit is the lowest) -/
def Hit (L : List Nat) (s b : Nat) : Prop := s < L.length ∧ 1 ≤ L.getD s 0 ∧ rv (L.getD s 0) b = codeOf L s
section
variable {L : List Nat} (h15 : ∀ x ∈ L, x ≤ 15)
include h15
theorem codeOf_eq {s : Nat} (h : 1 ≤ L.getD s 0) : codeOf L s = cn L (L.getD s 0 - 1) * 2 + rank L (L.getD s 0) s := by
  unfold codeOf; rw [if_pos ⟨h, getD_le h15 s⟩]
theorem codeOf_cn {s : Nat} (hs : s < L.length) (h : 1 ≤ L.getD s 0) : codeOf L s < cn L (L.getD s 0) := by
  rw [codeOf_eq h15 h]; have := rank_lt L hs (rfl : L.getD s 0 = L.getD s 0)
  conv => rhs; rw [show L.getD s 0 = (L.getD s 0 - 1) + 1 by omega]
  rw [cn, show L.getD s 0 - 1 + 1 = L.getD s 0 by omega]; omega
theorem codeOf_lt2 (hK : cn L 15 ≤ 2 ^ 15) {s : Nat} (hs : s < L.length) (h : 1 ≤ L.getD s 0) : codeOf L s < 2 ^ L.getD s 0 :=
  Nat.lt_of_lt_of_le (codeOf_cn h15 hs h) (cn_le2 hK (getD_le h15 s))
/-- where the symbol's 15 bits lie -/
theorem hit_bd {s b : Nat} (h : Hit L s b) : bd L (L.getD s 0 - 1) ≤ rv 15 b ∧ rv 15 b < bd L (L.getD s 0) := by
  obtain ⟨hs, h1, h2⟩ := h; have hl := getD_le h15 s; have hc := codeOf_cn h15 hs h1; have he := codeOf_eq h15 h1; have hX : rv 15 b = rv (L.getD s 0) b * 2 ^ (15 - L.getD s 0) + rv (15 - L.getD s 0) (b / 2 ^ L.getD s 0) := by
    rw [← rv_split, Nat.add_sub_cancel' hl]
  have hlt := rv_lt (15 - L.getD s 0) (b / 2 ^ L.getD s 0); rw [h2] at hX; unfold bd; constructor
  · have e : 15 - (L.getD s 0 - 1) = (15 - L.getD s 0) + 1 := by omega
    rw [e, Nat.pow_succ, hX, he, Nat.add_mul, Nat.mul_assoc, Nat.mul_comm 2]; omega
  · have : (codeOf L s + 1) * 2 ^ (15 - L.getD s 0) ≤ cn L (L.getD s 0) * 2 ^ (15 - L.getD s 0) := Nat.mul_le_mul_right _ (by omega); rw [Nat.add_mul, Nat.one_mul] at this; omega
theorem hit_len {s s' b b' : Nat} (h : Hit L s b) (h' : Hit L s' b') (hX : rv 15 b ≤ rv 15 b') : L.getD s 0 ≤ L.getD s' 0 := by
  rcases Nat.lt_or_ge (L.getD s' 0) (L.getD s 0) with h1 | h1
  · exfalso
    have a1 := (hit_bd h15 h).1; have a2 := (hit_bd h15 h').2; have := bd_mono L (show L.getD s' 0 ≤ L.getD s 0 - 1 by omega) (by have := getD_le h15 s; omega); omega
  · exact h1
theorem hit_unique {s s' b : Nat} (h : Hit L s b) (h' : Hit L s' b) : s = s' := by
  have e : L.getD s 0 = L.getD s' 0 := Nat.le_antisymm (hit_len h15 h h' (Nat.le_refl _)) (hit_len h15 h' h (Nat.le_refl _)); have hc : codeOf L s = codeOf L s' := by rw [← h.2.2, ← h'.2.2, e]
  rcases Nat.lt_trichotomy s s' with h1 | h1 | h1
  · have := codeOf_lt L h1 e h'.2.1 (getD_le h15 s'); omega
  · exact h1
  · have := codeOf_lt L h1 e.symm h.2.1 (getD_le h15 s); omega
omit h15 in
theorem rank_onto (L : List Nat) (l : Nat) : ∀ (k r : Nat), r < rank L l k → ∃ s, s < k ∧ L.getD s 0 = l ∧ rank L l s = r
  | 0, r, h => by simp [rank] at h
  | k + 1, r, h => by
    simp only [rank] at h; rcases Nat.lt_or_ge r (rank L l k) with h1 | h1
    · obtain ⟨s, a, b⟩ := rank_onto L l k r h1; exact ⟨s, by omega, b⟩
    · split at h
      · rename_i hk; exact ⟨k, by omega, hk, by omega⟩
      · omega
theorem hit_exists (hK : cn L 15 = 2 ^ 15) (b : Nat) : ∃ s, Hit L s b := by
  have hX := rv_lt 15 b; have hb15 : bd L 15 = 2 ^ 15 := by unfold bd; rw [hK]
  -- the least length whose end lies beyond
  obtain ⟨j, hj, h1, h2⟩ : ∃ j, j < 15 ∧ bd L j ≤ rv 15 b ∧ rv 15 b < bd L (j + 1) := by
    have key : ∀ n, n ≤ 15 → rv 15 b < bd L n → ∃ j, j < n ∧ bd L j ≤ rv 15 b ∧ rv 15 b < bd L (j + 1) := by
      intro n
      induction n with
      | zero => intro _ h; unfold bd at h; simp [cn] at h
      | succ n ih =>
        intro hn h; rcases Nat.lt_or_ge (rv 15 b) (bd L n) with h1 | h1
        · obtain ⟨j, a, c⟩ := ih (by omega) h1; exact ⟨j, by omega, c⟩
        · exact ⟨n, by omega, h1, h⟩
    exact key 15 (Nat.le_refl _) (by rw [hb15]; exact hX)
  have hsp : rv 15 b = rv (j + 1) b * 2 ^ (15 - (j + 1)) + rv (15 - (j + 1)) (b / 2 ^ (j + 1)) := by
    rw [← rv_split, Nat.add_sub_cancel' (by omega)]
  have hlt := rv_lt (15 - (j + 1)) (b / 2 ^ (j + 1)); have hpos := Nat.two_pow_pos (15 - (j + 1)); have e1 : bd L j = cn L j * 2 * 2 ^ (15 - (j + 1)) := by
    unfold bd; rw [show 15 - j = (15 - (j + 1)) + 1 by omega, Nat.pow_succ, Nat.mul_assoc, Nat.mul_comm 2]
  have e2 : bd L (j + 1) = cn L (j + 1) * 2 ^ (15 - (j + 1)) := rfl; have q1 : cn L j * 2 ≤ rv (j + 1) b := by
    have : cn L j * 2 * 2 ^ (15 - (j + 1)) < (rv (j + 1) b + 1) * 2 ^ (15 - (j + 1)) := by rw [Nat.add_mul, Nat.one_mul]; omega
    have := Nat.lt_of_mul_lt_mul_right this; omega
  have q2 : rv (j + 1) b < cn L (j + 1) := by
    have : rv (j + 1) b * 2 ^ (15 - (j + 1)) < cn L (j + 1) * 2 ^ (15 - (j + 1)) := by omega
    exact Nat.lt_of_mul_lt_mul_right this
  rw [cn] at q2; obtain ⟨s, a1, a2, a3⟩ := rank_onto L (j + 1) L.length (rv (j + 1) b - cn L j * 2) (by omega); refine ⟨s, a1, by omega, ?_⟩; rw [codeOf_eq h15 (by omega), a2, Nat.add_sub_cancel, a3]; omega
end
/-- more bits on top do not make the reversed number less -/
theorem rv_ext {b b' n : Nat} (h : b' % 2 ^ n = b % 2 ^ n) (hb : b < 2 ^ n) : rv 15 b ≤ rv 15 b' := by
  rcases Nat.lt_or_ge n 15 with h1 | h1
  · have e := rv_split n (15 - n) b; have e' := rv_split n (15 - n) b'; rw [Nat.add_sub_cancel' (by omega)] at e e'; rw [e, e', Nat.div_eq_of_lt hb, rv_zero, ← rv_mod n b, ← rv_mod n b', h]; omega
  · have : b' % 2 ^ 15 = b % 2 ^ 15 := by
      have d : 2 ^ 15 ∣ 2 ^ n := Nat.pow_dvd_pow 2 h1; rw [← Nat.mod_mod_of_dvd b' d, ← Nat.mod_mod_of_dvd b d, h]
    rw [← rv_mod 15 b, ← rv_mod 15 b', this]; exact Nat.le_refl _
theorem hit_mod {L : List Nat} {s b n : Nat} (h : L.getD s 0 ≤ n) : Hit L s (b % 2 ^ n) ↔ Hit L s b := by
  unfold Hit; have : rv (L.getD s 0) (b % 2 ^ n) = rv (L.getD s 0) b := by
    rw [← rv_mod, Nat.mod_mod_of_dvd b (Nat.pow_dvd_pow 2 h), rv_mod]
  rw [this]
theorem hit_iff {L : List Nat} (h15 : ∀ x ∈ L, x ≤ 15) (hK : cn L 15 ≤ 2 ^ 15) {s b : Nat} (hs : s < L.length) (h : 1 ≤ L.getD s 0) : Hit L s b ↔ b % 2 ^ L.getD s 0 = rv (L.getD s 0) (codeOf L s) := by
  rw [← rv_eq_iff (codeOf_lt2 h15 hK hs h)]; exact ⟨fun h => h.2.2, fun h2 => ⟨hs, h, h2⟩⟩

/-! reading a symbol -/
theorem rv_bits (B : List Nat) (P k : Nat) : rv (k + 1) (bitsv B P (k + 1)) = 2 * rv k (bitsv B P k) + bitAt B (P + k) := by
  rw [rv_split k 1, ← rv_mod k, bitsv_mod B P k 1, bitsv_div B P k 1]; simp only [rv, bitsv]; have := bitAt_lt B (P + k); simp; omega
theorem symF_fail {B : List Nat} {l : Ents} : ∀ (k long n : Nat) (s : RS), s.fail = true → (symF B l k long n s).2.fail = true
  | 0, _, _, _, _ => rfl
  | k + 1, long, n, s, h => by
    have hb : (rbit B s).2.fail = true := by unfold rbit; rw [if_pos h]
    simp only [symF]
    split
    · rw [if_pos hb]; exact symF_fail k _ _ _ hb
    · exact symF_fail k _ _ _ hb
theorem lkup_hit {L : List Nat} (_h15 : ∀ x ∈ L, x ≤ 15) {B : List Nat} {P k : Nat} (hk : 1 ≤ k) (hk2 : k ≤ 15) :
    lkup (ents L L.length) k (rv k (bitsv B P k)) = none ∧ (∀ s, L.getD s 0 = k → ¬ Hit L s (bitsv B P 15)) ∨ ∃ s, lkup (ents L L.length) k (rv k (bitsv B P k)) = some s ∧ L.getD s 0 = k ∧ Hit L s (bitsv B P 15) := by
  have e : rv k (bitsv B P 15) = rv k (bitsv B P k) := by rw [← rv_mod, bitsv_mod' hk2]
  cases hl : lkup (ents L L.length) k (rv k (bitsv B P k)) with
  | none =>
    refine .inl ⟨rfl, fun s hs hh => ?_⟩; have := mem_ents (L := L) hh.1 (by have := hh.2.1; omega); rw [hs, ← hh.2.2, hs, e] at this; exact lkup_none hl s this
  | some s =>
    obtain ⟨h1, h2, h3, h4⟩ := ents_mem (lkup_some hl); simp only at h1 h2 h3 h4; exact .inr ⟨s, rfl, h2.symm, h1, by omega, by rw [← h2, e, h3]⟩
/-- what is read when a symbol fits -/
theorem sym_hit {L : List Nat} (h15 : ∀ x ∈ L, x ≤ 15) {B : List Nat} {P s : Nat} (h : Hit L s (bitsv B P 15)) (hP : P + L.getD s 0 ≤ 8 * B.length) : sym B (ents L L.length) ⟨P, false⟩ = (s, ⟨P + L.getD s 0, false⟩) := by
  have hl15 := getD_le h15 s; have h1 := h.2.1; have key : ∀ d k, k + d = L.getD s 0 → 1 ≤ d → symF B (ents L L.length) (15 - k) (k + 1) (rv k (bitsv B P k)) ⟨P + k, false⟩ = (s, ⟨P + L.getD s 0, false⟩) := by
    intro d
    induction d with
    | zero => intro k _ h; omega
    | succ d ih =>
      intro k hk _; rw [show 15 - k = (15 - (k + 1)) + 1 by omega]; have hbit : rbit B ⟨P + k, false⟩ = (bitAt B (P + k), ⟨P + k + 1, false⟩) := by
        simp only [rbit, Bool.false_eq_true, if_false]; rw [if_neg (by omega)]
      simp only [symF, hbit]; rw [← rv_bits]; rcases lkup_hit h15 (B := B) (P := P) (k := k + 1) (by omega) (by omega) with ⟨hn, hno⟩ | ⟨s', hs', hl', hh'⟩
      · rw [hn]; simp only; rcases Nat.eq_zero_or_pos d with h0 | h0
        · exact absurd h (hno s (by omega))
        · exact ih (k + 1) (by omega) h0
      · rw [hs']; have := hit_unique h15 h hh'; subst this; simp only [Bool.false_eq_true, if_false]; rw [show P + k + 1 = P + L.getD s 0 by omega]
  exact key (L.getD s 0) 0 (by omega) h1
/-- .. and when none does, or the bits end -/
theorem sym_miss {L : List Nat} (h15 : ∀ x ∈ L, x ≤ 15) {B : List Nat} {P : Nat} (hP : P ≤ 8 * B.length) (h : ∀ s, Hit L s (bitsv B P 15) → 8 * B.length < P + L.getD s 0) : (sym B (ents L L.length) ⟨P, false⟩).2.fail = true := by
  have key : ∀ d k, k + d = 15 → P + k ≤ 8 * B.length → (symF B (ents L L.length) d (k + 1) (rv k (bitsv B P k)) ⟨P + k, false⟩).2.fail = true := by
    intro d
    induction d with
    | zero => intro k _ _; rfl
    | succ d ih =>
      intro k hk hPk; rcases Nat.lt_or_ge (P + k) (8 * B.length) with h1 | h1
      · have hbit : rbit B ⟨P + k, false⟩ = (bitAt B (P + k), ⟨P + k + 1, false⟩) := by
          simp only [rbit, Bool.false_eq_true, if_false]; rw [if_neg (by omega)]
        simp only [symF, hbit]; rw [← rv_bits]; rcases lkup_hit h15 (B := B) (P := P) (k := k + 1) (by omega) (by omega) with ⟨hn, hno⟩ | ⟨s', hs', hl', hh'⟩
        · rw [hn]; exact ih (k + 1) (by omega) (by omega)
        · have := h s' hh'; omega
      · have hb : (rbit B ⟨P + k, false⟩).2.fail = true := by
          simp only [rbit, Bool.false_eq_true, if_false]; rw [if_pos (by omega)]
        simp only [symF]
        split
        · rw [if_pos hb]; exact symF_fail _ _ _ _ hb
        · exact symF_fail _ _ _ _ hb
  exact key 15 0 rfl hP
end Go.Proofs.YtpbahgddoamhgaaGreatDoor.Pu
namespace Go.Proofs.YtpbahgddoamhgaaGreatDoor
open Go.Proofs.Tryz
open Go Sx Pu
set_option maxRecDepth 10000

theorem getD_in {α : Type} {l : List α} {i : Nat} {d : α} (h : i < l.length) : l.getD i d = l[i] := by rw [List.getD_eq_getElem?_getD, List.getElem?_eq_getElem h]; rfl
/-- what a table tells of the bits b -/
def look (ch : List Nat) (mask : Nat) (tabs : List (List Nat)) (b : Nat) : Nat :=
  if 9 < ch.getD (b % 2 ^ 9) 0 % 2 ^ 4 then (tabs.getD (ch.getD (b % 2 ^ 9) 0 / 2 ^ 4) []).getD (b / 2 ^ 9 &&& mask) 0 else ch.getD (b % 2 ^ 9) 0
/-- the table is that of the lengths L -/
structure Huf (ch : List Nat) (mask : Nat) (tabs : List (List Nat)) (L : List Nat) : Prop where
  h15 : ∀ x ∈ L, x ≤ 15
  len : L.length ≤ 320
  mlt : mask < 2 ^ 32
  clt : ∀ i, ch.getD i 0 < 2 ^ 32
  llt : ∀ b, look ch mask tabs b < 2 ^ 32
  idx : ∀ b, b < 2 ^ 32 → 9 < ch.getD (b % 2 ^ 9) 0 % 2 ^ 4 → ch.getD (b % 2 ^ 9) 0 / 2 ^ 4 < tabs.length ∧ (b / 2 ^ 9 &&& mask) < (tabs.getD (ch.getD (b % 2 ^ 9) 0 / 2 ^ 4) []).length
  hit : ∀ s b, Hit L s b → look ch mask tabs b = s * 16 + L.getD s 0
  miss : ∀ b, (∀ s, ¬ Hit L s b) → look ch mask tabs b % 16 = 0
  good : (∀ b, ∃ s, Hit L s b) ∨ (∀ i, L.getD i 0 ≤ 1)
/-- the second tables lie in D -/
def LK (D : Hl) (lv : Value) (tabs : List (List Nat)) : Prop := tabs ≠ [] → ∃ lb c lc ty r, lv = .slice (some ⟨lb, 0, none⟩) tabs.length lc ∧ AtH D lb (.cells (List.toArray c) ty (0, 0)) r ∧
  ∀ j (h : j < tabs.length), ∃ bj cj t' r', c[j]? = some (.slice (some ⟨bj, 0, none⟩) tabs[j].length cj) ∧ AtH D bj (.cells (List.toArray (tabs[j].map wV)) t' (0, 0)) r'
theorem LK.cons {D : Hl} {lv : Value} {tabs : List (List Nat)} (h : LK D lv tabs) (x : Nat × Obj) : LK (x :: D) lv tabs := fun hne => by
  obtain ⟨lb, c, lc, ty, r, h1, h2, h3⟩ := h hne; exact ⟨lb, c, lc, ty, _, h1, AtH.there, fun j hj => by obtain ⟨bj, cj, t', r', h4, h5⟩ := h3 j hj; exact ⟨bj, cj, t', _, h4, AtH.there⟩⟩
theorem LK.app {D : Hl} {lv : Value} {tabs : List (List Nat)} (h : LK D lv tabs) : ∀ G : Hl, LK (G ++ D) lv tabs
  | [] => h
  | x :: G => (h.app G).cons x
/-- a table lies at a place -/
def HMat (H : Hl) (hb q min : Nat) (ch : List Nat) (lv : Value) (mask : Nat) : Prop :=
  ∃ c ty fz r, AtH H hb (.cells (List.toArray c) ty fz) r ∧ c[q]? = some (iV min) ∧ (∀ i, i < 512 → c[q + 1 + i]? = some (wV (ch.getD i 0))) ∧ c[q + 513]? = some lv ∧ c[q + 514]? = some (wV mask)

section
variable {p : Option Addr} {cap k fb hb q o : Nat} {S B L : List Nat} {D : Hl} {eof shb uex hdr dic chk : Addr} {pr : Value} {xr xrBuf xro xb xnb xbits xcb xhist xwr xrd xfull xb0 xb1 xb2 xb3 xstep xsst xfin xerr xtr xhl xhd xcl xcd : Value} {xh1 xh2 : HD}

/-- an error that is none of the sentinels but ErrUnexpectedEOF -/
def ErrK (uex : Addr) (e : Value) : Prop := e = errV uex ∨ (∃ z, e = .iface 168 (.int .i64 z)) ∨ ∃ z, e = .iface 180 (.string z)
theorem ErrK.isIf {uex : Addr} {e : Value} (h : ErrK uex e) : isIf e = true := by
  rcases h with rfl | ⟨z, rfl⟩ | ⟨z, rfl⟩ <;> rfl

theorem huffSym_spec {ro : Int} {P nb j min mask : Nat} {ch : List Nat} {tabs : List (List Nat)} {lv : Value} (hG : GD D eof shb uex hdr dic chk) (hs : Src p S B o D) (hP : P + nb = 8 * j) (hj : j ≤ B.length) (hnb : nb ≤ 22)
    (hT : Huf ch mask tabs L) (hmin : min ≤ 15) (hmin2 : ∀ s, Hit L s 0 ∨ 1 ≤ L.getD s 0 → 1 ≤ min) (hlk : LK D lv tabs)
    (hm : ∀ (ro : Int) (ob : Obj), HMat ((fb, fO (fc (.iface 42 (.pointer (some ⟨k, 0, none⟩))) xrBuf (.int .i64 ro) (wV (bitsv B P nb)) (uV nb) xh1 xh2 xbits xcb xhist xwr xrd xfull xb0 xb1 xb2 xb3 xstep xsst xfin xerr xtr xhl xhd xcl xcd)) :: (k, ob) :: D) hb q min ch lv mask) :
    CallsL Tryz.prog 79 #[.pointer (some ⟨fb, 0, none⟩), .pointer (some ⟨hb, q, none⟩)] ((fb, fO (fc (.iface 42 (.pointer (some ⟨k, 0, none⟩))) xrBuf (.int .i64 ro) (wV (bitsv B P nb)) (uV nb) xh1 xh2 xbits xcb xhist xwr xrd xfull xb0 xb1 xb2 xb3 xstep xsst xfin xerr xtr xhl xhd xcl xcd)) :: (k, srcO (.slice p S.length cap) (o + j) pr) :: D) fun v H' =>
      ∃ ro' pr' j' nb',
        (∃ s, Hit L s (bitsv B P 15) ∧ P + L.getD s 0 ≤ 8 * B.length ∧ v = .tuple #[iV s, .nilIface] ∧ P + L.getD s 0 + nb' = 8 * j' ∧ j' ≤ B.length ∧ (nb' + L.getD s 0 ≤ max nb (min + 7) ∨ nb' ≤ 7) ∧
          H' = (fb, fO (fc (.iface 42 (.pointer (some ⟨k, 0, none⟩))) xrBuf (.int .i64 ro') (wV (bitsv B (P + L.getD s 0) nb')) (uV nb') xh1 xh2 xbits xcb xhist xwr xrd xfull xb0 xb1 xb2 xb3 xstep xsst xfin xerr xtr xhl xhd xcl xcd)) :: (k, srcO (.slice p S.length cap) (o + j') pr') :: D) ∨
        (((∀ s, Hit L s (bitsv B P 15) → 8 * B.length < P + L.getD s 0) ∨ 8 * B.length < P + min) ∧ j' ≤ B.length ∧ ∃ e e' b', ErrK uex e ∧ v = .tuple #[.int .i64 0, e] ∧
          H' = (fb, fO (fc (.iface 42 (.pointer (some ⟨k, 0, none⟩))) xrBuf (.int .i64 ro') (b') (uV nb') xh1 xh2 xbits xcb xhist xwr xrd xfull xb0 xb1 xb2 xb3 xstep xsst xfin (e') xtr xhl xhd xcl xcd)) :: (k, srcO (.slice p S.length cap) (o + j') pr') :: D) := by
  have hlen := hs.len; have hG2 := fun x => hG.cons x; obtain ⟨_, _, _, _, hm0, hmn, _, _, _⟩ := hm ro (srcO (.slice p S.length cap) (o + j) pr); refine CallsL_of func79 rfl ntmps79 rfl ?_
  try dsimp only [initE, Nat.zero_add]
  refine W_seq fun K1 hK1 => ?_; refine W_region ?_; refine xa rfl rfl ?_; refine xa rfl rfl ?_; refine WO_nil (sq_n (hK1 _ _ ?_)); refine W_seq fun K2 hK2 => ?_; refine W_region ?_; refine xm rfl rfl ?_; refine xn rfl rfl ?_; refine xp (v_fa (q := 0) rfl underlying138 rfl rfl sizeOf3 rfl) rfl ?_; refine xv (v_ld rfl rfl isAgg3 hmn) rfl ?_; refine xp (n_cv rfl underlying3 underlying37 rfl kU (by omega)) rfl ?_; refine xa rfl rfl ?_; refine WO_nil (sq_n (hK2 _ _ ?_)); refine W.keep [0,1,4,5,6] rfl ?_; refine W_seq fun K3 hK3 => ?_; refine W_draw mixed ?_; refine WA_k (fuel := 0) [0,1,2,3,4,5,6,7,8,9] rfl (by kernel_rfl) ?_; refine ym rfl rfl rfl ?_; refine yp rfl (v_nil rfl rfl) rfl ?_; refine yp rfl (v_fa (q := 4) rfl underlying146 rfl rfl sizeOf37 rfl) rfl ?_; refine yv rfl (ld rfl rfl isAgg37) rfl ?_; refine ym rfl rfl rfl ?_; refine yp rfl (v_nil rfl rfl) rfl ?_
  refine yp rfl (v_fa (q := 3) rfl underlying146 rfl rfl sizeOf29 rfl) rfl ?_; refine yv rfl (ld rfl rfl isAgg29) rfl ?_; refine yp rfl (v_as rfl rfl) rfl ?_; refine yp rfl (v_as rfl rfl) rfl ?_; refine WK_nil ?_; refine WA_nil (by kernel_rfl) (sq_n (hK3 _ _ ?_)); refine W.keep [0,1,4,5,6,7,8] rfl ?_; refine W_block ?_
  refine W_loop (fun m E H => ∃ n nb1 j ro pr, P + nb1 = 8 * j ∧ j ≤ B.length ∧ nb1 ≤ 22 ∧ n ≤ 15 ∧ ((n = min ∧ nb1 = nb ∧ m = 100) ∨ (nb1 < n ∧ m = 50 - nb1 ∧ ∃ s, Hit L s (bitsv B P nb1) ∧ L.getD s 0 = n)) ∧ Sub E [(0, .pointer (some ⟨fb, 0, none⟩)), (1, .pointer (some ⟨hb, q, none⟩)), (6, uV n), (7, uV nb1), (8, wV (bitsv B P nb1))] ∧ H = (fb, fO (fc (.iface 42 (.pointer (some ⟨k, 0, none⟩))) xrBuf (.int .i64 ro) (wV (bitsv B P nb)) (uV nb) xh1 xh2 xbits xcb xhist xwr xrd xfull xb0 xb1 xb2 xb3 xstep xsst xfin xerr xtr xhl xhd xcl xcd)) :: (k, srcO (.slice p S.length cap) (o + j) pr) :: D) (m := _) (⟨min, nb, j, ro, pr, hP, hj, hnb, hmin, .inl ⟨rfl, rfl, rfl⟩, ⟨rfl, rfl, rfl, rfl, rfl, trivial⟩, rfl⟩) ?_; clear hm0 hmn hP hj; rintro m E H ⟨n, nb1, j, ro, pr, hP, hj, hnb1, hn, hR, hE, rfl⟩; refine W.env hE ?_; refine W_block ?_; refine W_seq fun K4 hK4 => ?_; refine W_block ?_
  refine W_loop (fun z E H => ∃ nb2 j ro pr, z = 50 - nb2 ∧ P + nb2 = 8 * j ∧ j ≤ B.length ∧ nb2 ≤ 22 ∧ nb1 ≤ nb2 ∧ (nb2 = nb1 ∨ nb2 < n + 8) ∧ Sub E [(0, .pointer (some ⟨fb, 0, none⟩)), (1, .pointer (some ⟨hb, q, none⟩)), (6, uV n), (7, uV nb2), (8, wV (bitsv B P nb2))] ∧ H = (fb, fO (fc (.iface 42 (.pointer (some ⟨k, 0, none⟩))) xrBuf (.int .i64 ro) (wV (bitsv B P nb)) (uV nb) xh1 xh2 xbits xcb xhist xwr xrd xfull xb0 xb1 xb2 xb3 xstep xsst xfin xerr xtr xhl xhd xcl xcd)) :: (k, srcO (.slice p S.length cap) (o + j) pr) :: D) (m := _) (⟨nb1, j, ro, pr, rfl, hP, hj, hnb1, Nat.le_refl _, .inl rfl, ⟨rfl, rfl, rfl, rfl, rfl, trivial⟩, rfl⟩) ?_; clear hP hj; rintro z E H ⟨nb2, j, ro, pr, rfl, hP, hj, hnb2, h12, hrd, hE, rfl⟩; refine W.env hE ?_; refine W_seq fun K5 hK5 => ?_; refine W_seq fun K6 hK6 => ?_; refine W_region ?_; refine xm rfl rfl ?_; refine xm rfl rfl ?_
  refine xp (n_lt rfl rfl rfl) rfl ?_; refine WO_nil (sq_n (hK6 _ _ ?_)); refine W_cond rfl (fun hcz => ?_) (fun hcz => ?_)
  · replace hcz := of_decide_eq_true hcz; refine W_skip (sq_n (hK5 _ _ ?_)); refine W_block ?_; refine W_seq fun K7 hK7 => ?_; refine W_region ?_; refine xm rfl rfl ?_; refine xn rfl rfl ?_; refine xp (v_fa (q := 0) rfl underlying146 rfl rfl sizeOf82 rfl) rfl ?_; refine xv (ld rfl rfl isAgg82) rfl ?_; refine wc (e_i rfl rfl rfl (m_ReadByte k) call106) rfl rfl rfl (readByte_spec (k := k) (cap := cap) hG hs.hd (by have := hs.hl; omega) (by omega)) (.skip .all) ?_; rintro _ _ ⟨pr', ⟨hlt, rfl, rfl⟩ | ⟨hge, rfl, rfl⟩⟩
    all_goals ((try simp only [ap4]))
    · refine xm rfl rfl ?_; refine xp (v_ex rfl rfl rfl) rfl ?_; refine xp (v_ex rfl rfl rfl) rfl ?_; refine xa rfl rfl ?_; refine xa rfl rfl ?_; refine WO_nil (sq_n (hK7 _ _ ?_)); refine W_seq fun K8 hK8 => ?_; refine W_seq fun K9 hK9 => ?_; refine W_region ?_; refine xm rfl rfl ?_; refine xp (v_nen rfl rfl) rfl ?_; refine WO_nil (sq_n (hK9 _ _ ?_)); refine W_cond_f rfl ?_; refine W_skip (sq_n (hK8 _ _ ?_)); refine W_seq fun K10 hK10 => ?_; refine W_region ?_; refine xm rfl rfl ?_; refine xn rfl rfl ?_; refine xp (v_fa (q := 2) rfl underlying146 rfl rfl sizeOf2 rfl) rfl ?_; refine xv (ld rfl rfl isAgg2) rfl ?_; refine xp (v_add rfl rfl rfl rfl) rfl ?_; refine xn rfl rfl ?_; refine xp (v_fa (q := 2) rfl underlying146 rfl rfl sizeOf2 rfl) rfl ?_; refine wst rfl rfl rfl sizeOf2 rfl rfl rfl ?_; refine WO_nil (sq_n (hK10 _ _ ?_)); refine W_seq fun K11 hK11 => ?_; rw [hs.get]
      have hby := hs.byte j; have hbl := bitsv_lt B P nb2; have h24 : 2 ^ nb2 ≤ 2 ^ 15 := Nat.pow_le_pow_right (by decide) (by omega); have hbv : bitsv B P (nb2 + 8) = bitsv B P nb2 + B.getD j 0 * 2 ^ nb2 := by rw [bitsv_add, hP, bitsv_byte B j hby]
      have hmul : B.getD j 0 * 2 ^ nb2 ≤ 255 * 2 ^ 15 := Nat.mul_le_mul (by omega) h24; refine W_region ?_; refine xm rfl rfl ?_; refine xm rfl rfl ?_; refine xp (n_cv rfl underlying5 underlying29 rfl kW (by omega)) rfl ?_; refine xm rfl rfl ?_; refine xp (n_keep 5 rfl rfl rfl kU (by omega) (by decide) (by decide) (by omega)) rfl ?_; refine xp (n_shl rfl rfl rfl kW (by show _ ≤ 32; omega) (by omega)) rfl ?_; refine xp (n_oradd rfl rfl rfl kW (by omega) (by omega) hbl) rfl ?_; refine xa rfl rfl ?_; refine WO_nil (sq_n (hK11 _ _ ?_)); refine W_region ?_; refine xm rfl rfl ?_; refine xp (n_add rfl rfl rfl kU (by omega)) rfl ?_; refine xa rfl rfl ?_; refine WO_nil (bl_n (sq_n (?_))); rw [← hbv]; exact ⟨50 - (nb2 + 8), by omega, nb2 + 8, j + 1, _, pr', rfl, by omega, by omega, by omega, by omega, .inr (by omega), ⟨rfl, rfl, rfl, rfl, rfl, trivial⟩, rfl⟩
    · refine xm rfl rfl ?_; refine xp (v_ex rfl rfl rfl) rfl ?_; refine xp (v_ex rfl rfl rfl) rfl ?_; refine xa rfl rfl ?_; refine xa rfl rfl ?_; refine WO_nil (sq_n (hK7 _ _ ?_)); refine W_seq fun K12 hK12 => ?_; refine W_seq fun K13 hK13 => ?_; refine W_region ?_; refine xm rfl rfl ?_; refine xp (v_nei rfl rfl rfl) rfl ?_; refine WO_nil (sq_n (hK13 _ _ ?_)); refine W_cond_t rfl ?_; refine W_seq fun K14 hK14 => ?_; refine W_region ?_; refine xm rfl rfl ?_; refine xm rfl rfl ?_; refine xn rfl rfl ?_; refine xp (v_fa (q := 3) rfl underlying146 rfl rfl sizeOf29 rfl) rfl ?_; refine wst rfl rfl rfl sizeOf29 rfl rfl rfl ?_; refine WO_nil (sq_n (hK14 _ _ ?_)); refine W_seq fun K15 hK15 => ?_; refine W_region ?_; refine xm rfl rfl ?_; refine xm rfl rfl ?_; refine xn rfl rfl ?_; refine xp (v_fa (q := 4) rfl underlying146 rfl rfl sizeOf37 rfl) rfl ?_; refine wst rfl rfl rfl sizeOf37 rfl rfl rfl ?_
      refine WO_nil (sq_n (hK15 _ _ ?_)); refine W_seq fun K16 hK16 => ?_; refine W_region ?_; refine xm rfl rfl ?_; refine wc (e_c rfl rfl rfl call74) rfl rfl rfl (noEOF_eof ((hG.cons _).cons _)) .all ?_; rintro _ _ ⟨rfl, rfl⟩; (try simp only [ap4]); refine xa rfl rfl ?_; refine xa rfl rfl ?_; refine WO_nil (sq_n (hK16 _ _ ?_)); refine W_ret (sq_r (bl_r (sq_r (bl_r (sq_r (bl_r (sq_r (bl_r (ret_of (v := _) rfl ?_))))))))); obtain rfl : j = B.length := by omega
      refine ⟨_, _, B.length, nb2, .inr ⟨?_, Nat.le_refl _, _, _, _, .inl rfl, rfl, rfl⟩⟩; rcases hR with ⟨e1, e2, _⟩ | ⟨_, _, s, e1, e2⟩
      · exact .inr (by omega)
      · refine .inl fun s1 hs1 => ?_; have := hit_len hT.h15 e1 hs1 (rv_ext (n := nb1) (by rw [bitsv_mod' (by omega), Nat.mod_eq_of_lt (bitsv_lt _ _ _)]) (bitsv_lt _ _ _)); omega
  · replace hcz := of_decide_eq_false hcz; refine W_exit (sq_x (sq_x (bl_x (sq_n (hK4 _ _ ?_))))); refine W_seq fun K17 hK17 => ?_; obtain ⟨c, ty, fz, r, hm0, hmn, hmc, hml, hmm⟩ := hm ro (srcO (.slice p S.length cap) (o + j) pr); have hbl := bitsv_lt B P nb2; have h24 : 2 ^ nb2 ≤ 2 ^ 22 := Nat.pow_le_pow_right (by decide) (by omega); have hb32 : bitsv B P nb2 < 4294967296 := by omega
    have hc32 := hT.clt (bitsv B P nb2 % 2 ^ 9); have hbm : bitsv B P nb2 % 2 ^ 9 < 512 := Nat.mod_lt _ (by decide); refine W_region ?_; refine xm rfl rfl ?_; refine xm rfl rfl ?_; refine xp (n_mask 9 rfl rfl rfl kW (by omega) (by decide) (by decide)) rfl ?_; refine xn rfl rfl ?_; refine xp (v_fa (q := 1) rfl underlying138 rfl rfl sizeOf135 rfl) rfl ?_; refine xp (v_ixa rfl underlying135 sizeOf29 rfl rfl (by omega)) rfl ?_; refine xv (v_ld rfl rfl isAgg29 (hmc _ hbm)) rfl ?_; refine xa rfl rfl ?_; refine WO_nil (sq_n (hK17 _ _ ?_)); refine W_seq fun K18 hK18 => ?_; refine W_region ?_; refine xm rfl rfl ?_; refine xp (n_mask 4 rfl rfl rfl kW (by omega) (by decide) (by decide)) rfl ?_; refine xp (n_cv rfl underlying29 underlying37 rfl kU (by omega)) rfl ?_; refine xa rfl rfl ?_; refine WO_nil (sq_n (hK18 _ _ ?_))
    refine W_seq_mid (fun E H => Sub E [(0, .pointer (some ⟨fb, 0, none⟩)), (6, uV (look ch mask tabs (bitsv B P nb2) % 2 ^ 4)), (7, uV nb2), (8, wV (bitsv B P nb2)), (11, wV (look ch mask tabs (bitsv B P nb2))), (1, .pointer (some ⟨hb, q, none⟩))] ∧ H = (fb, fO (fc (.iface 42 (.pointer (some ⟨k, 0, none⟩))) xrBuf (.int .i64 ro) (wV (bitsv B P nb)) (uV nb) xh1 xh2 xbits xcb xhist xwr xrd xfull xb0 xb1 xb2 xb3 xstep xsst xfin xerr xtr xhl xhd xcl xcd)) :: (k, srcO (.slice p S.length cap) (o + j) pr) :: D) ?_ ?_
    · refine W_seq fun K20 hK20 => ?_; refine W_region ?_; refine xm rfl rfl ?_; refine xp (n_gt rfl rfl rfl) rfl ?_; refine WO_nil (sq_n (hK20 _ _ ?_)); refine W_cond rfl (fun hc2 => ?_) (fun hc2 => ?_)
      · replace hc2 := of_decide_eq_true hc2; refine W_seq fun K21 hK21 => ?_; obtain ⟨hi1, hi2⟩ := hT.idx _ (by omega) hc2; have hne : tabs ≠ [] := by intro e; subst e; simp at hi1
        obtain ⟨lb, lc, lcap, lty, lr, rfl, hla, hlt⟩ := hlk hne; obtain ⟨bj, cj, tj, rj, hlc, hja⟩ := hlt _ hi1; have hgt : tabs.getD (ch.getD (bitsv B P nb2 % 2 ^ 9) 0 / 2 ^ 4) [] = tabs[ch.getD (bitsv B P nb2 % 2 ^ 9) 0 / 2 ^ 4] := getD_in hi1; rw [hgt] at hi2; have hlk1 : (tabs[ch.getD (bitsv B P nb2 % 2 ^ 9) 0 / 2 ^ 4].map wV)[bitsv B P nb2 / 2 ^ 9 &&& mask]? = some (wV ((tabs.getD (ch.getD (bitsv B P nb2 % 2 ^ 9) 0 / 2 ^ 4) []).getD (bitsv B P nb2 / 2 ^ 9 &&& mask) 0)) := by
          rw [hgt, List.getElem?_map, List.getElem?_eq_getElem hi2, getD_in hi2]; rfl
        have hmlt := hT.mlt; have hlook : look ch mask tabs (bitsv B P nb2) = (tabs.getD (ch.getD (bitsv B P nb2 % 2 ^ 9) 0 / 2 ^ 4) []).getD (bitsv B P nb2 / 2 ^ 9 &&& mask) 0 := by unfold look; rw [if_pos hc2]
        refine W_draw mixed ?_; refine WA_k (fuel := 0) [0,1,2,3,4,5,6,7,8,9,10,11,12,13,14,15,16,17] rfl (by kernel_rfl) ?_; refine ym rfl rfl rfl ?_; refine yp rfl (v_nil rfl rfl) rfl ?_; refine yp rfl (v_fa (q := 513) rfl underlying138 rfl rfl sizeOf136 rfl) rfl ?_; refine yv rfl (v_ld rfl rfl isAgg136 hml) rfl ?_; refine ym rfl rfl rfl ?_; refine yp rfl (n_shr rfl rfl rfl (by decide)) rfl ?_; refine yp rfl (v_ixs rfl underlying136 sizeOf183 rfl rfl (by omega)) rfl ?_; refine yv rfl (v_ld rfl rfl isAgg183 hlc) rfl ?_; refine ym rfl rfl rfl ?_; refine yp rfl (n_shr rfl rfl rfl (by decide)) rfl ?_; refine ym rfl rfl rfl ?_; refine yp rfl (v_nil rfl rfl) rfl ?_; refine yp rfl (v_fa (q := 514) rfl underlying138 rfl rfl sizeOf29 rfl) rfl ?_; refine yv rfl (v_ld rfl rfl isAgg29 hmm) rfl ?_
        refine yp rfl (n_and rfl rfl rfl kW (Nat.lt_of_le_of_lt (Nat.div_le_self _ _) (by omega)) (by omega)) rfl ?_; refine yp rfl (v_ixs rfl underlying183 sizeOf29 rfl rfl (by omega)) rfl ?_; refine yv rfl (v_ld rfl rfl isAgg29 hlk1) rfl ?_; refine yp rfl (v_as rfl rfl) rfl ?_; refine WK_nil ?_; refine WA_nil (by kernel_rfl) (sq_n (hK21 _ _ ?_)); have hl32 := hT.llt (bitsv B P nb2); rw [hlook] at hl32; refine W_region ?_; refine xm rfl rfl ?_; refine xp (n_mask 4 rfl rfl rfl kW (by omega) (by decide) (by decide)) rfl ?_; refine xp (n_cv rfl underlying29 underlying37 rfl kU (by omega)) rfl ?_; refine xa rfl rfl ?_; refine WO_nil (sq_n (?_)); unfold look; first
        | (rw [if_pos hc2]; exact ⟨⟨rfl, rfl, rfl, rfl, rfl, rfl, trivial⟩, rfl⟩)
        | (rw [if_neg hc2]; exact ⟨⟨rfl, rfl, rfl, rfl, rfl, rfl, trivial⟩, rfl⟩)
      · replace hc2 := of_decide_eq_false hc2; refine W_skip (sq_n (?_)); unfold look; first
        | (rw [if_pos hc2]; exact ⟨⟨rfl, rfl, rfl, rfl, rfl, rfl, trivial⟩, rfl⟩)
        | (rw [if_neg hc2]; exact ⟨⟨rfl, rfl, rfl, rfl, rfl, rfl, trivial⟩, rfl⟩)
    · rintro E H ⟨hE, rfl⟩; refine W.env hE ?_; refine W_seq fun K22 hK22 => ?_; clear hm0 hmn hmc hml hmm; have hl32 := hT.llt (bitsv B P nb2); have hl16 : look ch mask tabs (bitsv B P nb2) % 2 ^ 4 < 16 := Nat.mod_lt _ (by decide); refine W_region ?_; refine xm rfl rfl ?_; refine xm rfl rfl ?_; refine xp (n_le rfl rfl rfl) rfl ?_; refine WO_nil (sq_n (hK22 _ _ ?_)); refine W_cond rfl (fun hc3 => ?_) (fun hc3 => ?_)
      · replace hc3 := of_decide_eq_true hc3; refine W_seq fun K23 hK23 => ?_; refine W_seq fun K24 hK24 => ?_; refine W_region ?_; refine xm rfl rfl ?_; refine xp (n_eq rfl rfl rfl) rfl ?_; refine WO_nil (sq_n (hK24 _ _ ?_)); refine W_cond rfl (fun hc4 => ?_) (fun hc4 => ?_)
        · replace hc4 := of_decide_eq_true hc4; have hno : ∀ s, ¬ Hit L s (bitsv B P nb2) := fun s hs => by
            have h1 := hT.hit s _ hs; have h2 := getD_le hT.h15 s; have h3 := hs.2.1; omega
          have hno2 : ∀ s, ¬ Hit L s (bitsv B P 15) := fun s hs => by
            rcases hT.good with hg | hg
            · obtain ⟨s2, h2⟩ := hg (bitsv B P nb2); exact hno s2 h2
            · have h1 := hs.2.1; have h2 := hg s; have h3 := hmin2 s (.inr h1); have h4 : 1 ≤ nb2 := by
                rcases hR with ⟨e1, e2, _⟩ | ⟨_, _, s3, e3, e4⟩
                · omega
                · have := e3.2.1; omega
              have h5 : Hit L s (bitsv B P nb2 % 2 ^ 1) := by
                rw [bitsv_mod' h4, ← bitsv_mod' (B := B) (P := P) (n := 1) (nb := 15) (by decide)]; exact (hit_mod h2).2 hs
              exact hno s ((hit_mod h2).1 h5)
          refine W_seq fun K25 hK25 => ?_; refine W_region ?_; refine xm rfl rfl ?_; refine xm rfl rfl ?_; refine xn rfl rfl ?_; refine xp (v_fa (q := 3) rfl underlying146 rfl rfl sizeOf29 rfl) rfl ?_; refine wst rfl rfl rfl sizeOf29 rfl rfl rfl ?_; refine WO_nil (sq_n (hK25 _ _ ?_)); refine W_seq fun K26 hK26 => ?_; refine W_region ?_; refine xm rfl rfl ?_; refine xm rfl rfl ?_; refine xn rfl rfl ?_; refine xp (v_fa (q := 4) rfl underlying146 rfl rfl sizeOf37 rfl) rfl ?_; refine wst rfl rfl rfl sizeOf37 rfl rfl rfl ?_; refine WO_nil (sq_n (hK26 _ _ ?_)); refine W_seq fun K27 hK27 => ?_; refine W_region ?_; refine xm rfl rfl ?_; refine xm rfl rfl ?_; refine xn rfl rfl ?_; refine xp (v_fa (q := 2) rfl underlying146 rfl rfl sizeOf2 rfl) rfl ?_; refine xv (ld rfl rfl isAgg2) rfl ?_; refine xp (v_mi rfl underlying168 rfl rfl) rfl ?_; refine xn rfl rfl ?_
          refine xp (v_fa (q := 1048) rfl underlying146 rfl rfl sizeOf47 rfl) rfl ?_; refine wst rfl rfl rfl sizeOf47 rfl rfl rfl ?_; refine WO_nil (sq_n (hK27 _ _ ?_)); refine W_seq fun K28 hK28 => ?_; refine W_draw mixed ?_; refine WA_k (fuel := 0) [0,1,2,3,4,5] rfl (by kernel_rfl) ?_; refine ym rfl rfl rfl ?_; refine yp rfl (v_nil rfl rfl) rfl ?_; refine yp rfl (v_fa (q := 1048) rfl underlying146 rfl rfl sizeOf47 rfl) rfl ?_; refine yv rfl (ld rfl rfl isAgg47) rfl ?_; refine yp rfl (v_as rfl rfl) rfl ?_; refine yp rfl (v_as rfl rfl) rfl ?_; refine WK_nil ?_; refine WA_nil (by kernel_rfl) (sq_n (hK28 _ _ ?_)); refine W_ret (sq_r (bl_r (sq_r (bl_r (ret_of (v := _) rfl ?_))))); exact ⟨_, _, j, nb2, .inr ⟨.inl fun s hs => absurd hs (hno2 s), hj, _, _, _, .inr (.inl ⟨_, rfl⟩), rfl, rfl⟩⟩
        · replace hc4 := of_decide_eq_false hc4; have hsx : ∃ s, Hit L s (bitsv B P nb2) := by
            rcases Classical.em (∃ s, Hit L s (bitsv B P nb2)) with h | h
            · exact h
            · have := hT.miss _ (fun s hs => h ⟨s, hs⟩); omega
          obtain ⟨s, hsx⟩ := hsx; have hlx := hT.hit s _ hsx; have hl15 := getD_le hT.h15 s; have h16 : look ch mask tabs (bitsv B P nb2) % 2 ^ 4 = L.getD s 0 := by omega
          have hsL : s < L.length := hsx.1; have hLl := hT.len; have hdv : look ch mask tabs (bitsv B P nb2) / 2 ^ 4 = s := by omega
          rw [h16] at hc3 ⊢; have hdb := bitsv_div' (B := B) (P := P) hc3; have hss : Hit L s (bitsv B P 15) := by
            have h5 := (hit_mod (n := L.getD s 0) (Nat.le_refl _)).2 hsx; rw [bitsv_mod' hc3, ← bitsv_mod' (B := B) (P := P) hl15] at h5; exact (hit_mod (Nat.le_refl _)).1 h5
          refine W_skip (sq_n (hK23 _ _ ?_)); refine W_seq fun K29 hK29 => ?_; refine W_region ?_; refine xm rfl rfl ?_; refine xm rfl rfl ?_; refine xm rfl rfl ?_; refine xp (n_keep 5 rfl rfl rfl kU (by omega) (by decide) (by decide) (by omega)) rfl ?_; refine xp (n_shr rfl rfl rfl (by show _ ≤ 32; omega)) rfl ?_; refine xn rfl rfl ?_; refine xp (v_fa (q := 3) rfl underlying146 rfl rfl sizeOf29 rfl) rfl ?_; refine wst rfl rfl rfl sizeOf29 rfl rfl rfl ?_; refine WO_nil (sq_n (hK29 _ _ ?_)); refine W_seq fun K30 hK30 => ?_; refine W_region ?_; refine xm rfl rfl ?_; refine xm rfl rfl ?_; refine xm rfl rfl ?_; refine xp (n_sub rfl rfl rfl kU (by omega) (by omega)) rfl ?_; refine xn rfl rfl ?_; refine xp (v_fa (q := 4) rfl underlying146 rfl rfl sizeOf37 rfl) rfl ?_; refine wst rfl rfl rfl sizeOf37 rfl rfl rfl ?_; refine WO_nil (sq_n (hK30 _ _ ?_)); refine W_seq fun K31 hK31 => ?_
          refine W_region ?_; refine xm rfl rfl ?_; refine xp (n_shr rfl rfl rfl (by decide)) rfl ?_; refine xp (n_cv rfl underlying29 underlying3 rfl kI (by omega)) rfl ?_; refine xa rfl rfl ?_; refine xa rfl rfl ?_; refine WO_nil (sq_n (hK31 _ _ ?_)); refine W_ret (bl_r (sq_r (bl_r (ret_of (v := _) rfl ?_)))); refine ⟨ro, pr, j, nb2 - L.getD s 0, .inl ⟨s, hss, by omega, ?_, by omega, hj, ?_, ?_⟩⟩
          · rw [hdv]
          · rcases hrd with e | e
            · rcases hR with ⟨e1, e2, _⟩ | ⟨e1, _, s3, e3, e4⟩
              · left; omega
              · exfalso; omega
            · rcases hR with ⟨e1, e2, _⟩ | ⟨e1, _, s3, e3, e4⟩
              · left; omega
              · right; have := hit_len hT.h15 e3 hss (rv_ext (n := nb1) (by rw [bitsv_mod' (by omega), Nat.mod_eq_of_lt (bitsv_lt _ _ _)]) (bitsv_lt _ _ _)); omega
          · rw [← hdb]
      · replace hc3 := of_decide_eq_false hc3; refine W_skip (bl_n (sq_n (?_))); skip; have hsx : ∃ s, Hit L s (bitsv B P nb2) := by
          rcases Classical.em (∃ s, Hit L s (bitsv B P nb2)) with h | h
          · exact h
          · have := hT.miss _ (fun s hs => h ⟨s, hs⟩); omega
        obtain ⟨s, hsx⟩ := hsx; have hlx := hT.hit s _ hsx; have hl15 := getD_le hT.h15 s; exact ⟨50 - nb2, by omega, look ch mask tabs (bitsv B P nb2) % 2 ^ 4, nb2, j, ro, pr, hP, hj, by omega, by omega, .inr ⟨by omega, rfl, s, hsx, by omega⟩, ⟨rfl, rfl, rfl, rfl, rfl, trivial⟩, rfl⟩
end
end Go.Proofs.YtpbahgddoamhgaaGreatDoor
namespace Go.Proofs.YtpbahgddoamhgaaGreatDoor
open Go.Proofs.Tryz
open Go Sx Pu
set_option maxRecDepth 10000

/-- the table that Reverse8 reads -/
noncomputable def revS : ByteArray := match Tryz.f82.body with
  | some (.seq _ (.seq (.region _ ops _) _)) => match ops[1]? with
    | some o => match o.op with
      | .index _ (.const (.string s)) _ => s
      | _ => .empty
    | none => .empty
  | _ => .empty
theorem rev_all : ((List.range 256).all fun j => revS[j]? == some (UInt8.ofNat (rv 8 j))) = true := by kernel_rfl
theorem rev_at {j : Nat} (h : j < 256) : revS[j]? = some (UInt8.ofNat (rv 8 j)) := by
  have := List.all_eq_true.1 rev_all j (List.mem_range.2 h); exact LawfulBEq.eq_of_beq this
theorem rev_nat {j : Nat} : (UInt8.ofNat (rv 8 j)).toNat = rv 8 j := by
  rw [UInt8.toNat_ofNat']; exact Nat.mod_eq_of_lt (rv_lt 8 j)
theorem reverse8_spec {x : Nat} (hx : x < 256) : CallsL Tryz.prog 82 #[bV x] [] fun v H' => v = bV (rv 8 x) ∧ H' = [] := by
  refine CallsL_of func82 rfl ntmps82 rfl ?_
  try dsimp only [initE, Nat.zero_add]
  refine W_seq fun K1 hK1 => ?_; refine W_region ?_; refine xa rfl rfl ?_; refine WO_nil (sq_n (hK1 _ _ ?_)); refine W_seq fun K2 hK2 => ?_; refine W_region ?_; refine xm rfl rfl ?_; refine xp (v_ixstr (s := revS) rfl underlying9 rfl rfl (rev_at hx)) rfl ?_; refine xa rfl rfl ?_; refine WO_nil (sq_n (hK2 _ _ ?_)); refine W.keep [2] rfl ?_; refine W_ret (ret_of (v := _) rfl ?_); rw [rev_nat]; exact ⟨rfl, rfl⟩
theorem rv16 {x : Nat} : rv 8 (x / 2 ^ 8) + rv 8 (x % 2 ^ 8) * 2 ^ 8 = rv 16 x := by
  rw [rv_mod, show (16 : Nat) = 8 + 8 from rfl, rv_split 8 8]; omega
theorem reverse16_spec {x : Nat} (hx : x < 65536) : CallsL Tryz.prog 89 #[hV x] [] fun v H' => v = hV (rv 16 x) ∧ H' = [] := by
  have h1 := rv_lt 8 (x / 2 ^ 8); have h2 := rv_lt 8 (x % 2 ^ 8); refine CallsL_of func89 rfl ntmps89 rfl ?_
  try dsimp only [initE, Nat.zero_add]
  refine W_seq fun K1 hK1 => ?_; refine W_region ?_; refine xa rfl rfl ?_; refine WO_nil (sq_n (hK1 _ _ ?_)); refine W_seq fun K2 hK2 => ?_; refine W_draw mixed ?_; refine WA_k (fuel := 0) [0,1,2,3,4,5,6,7,8,9,10] rfl (by kernel_rfl) ?_; refine ym rfl rfl rfl ?_; refine yp rfl (n_shr rfl rfl rfl (by decide)) rfl ?_; refine yp rfl (v_ixstr (s := revS) rfl underlying9 rfl rfl (rev_at (by omega))) rfl ?_; rw [rev_nat]; refine yp rfl (n_cv rfl underlying5 underlying115 rfl kH (by omega)) rfl ?_; refine ym rfl rfl rfl ?_; refine yp rfl (n_mask 8 rfl rfl rfl kH (by omega) (by decide) (by decide)) rfl ?_; refine yp rfl (v_ixstr (s := revS) rfl underlying9 rfl rfl (rev_at (by omega))) rfl ?_; rw [rev_nat]; refine yp rfl (n_cv rfl underlying5 underlying115 rfl kH (by omega)) rfl ?_; refine yp rfl (n_shl rfl rfl rfl kH (by decide) (by omega)) rfl ?_
  refine yp rfl (n_oradd rfl rfl rfl kH (by omega) (by omega) h1) rfl ?_; refine yp rfl (v_as rfl rfl) rfl ?_; refine WK_nil ?_; refine WA_nil (by kernel_rfl) (sq_n (hK2 _ _ ?_)); refine W.keep [2] rfl ?_; refine W_ret (ret_of (v := _) rfl ?_); rw [rv16]; exact ⟨rfl, rfl⟩
end Go.Proofs.YtpbahgddoamhgaaGreatDoor
namespace Go.Proofs.YtpbahgddoamhgaaGreatDoor.Pu

/-- the shortest and the longest code of the first k -/
def mn (L : List Nat) : Nat → Nat
  | 0 => 0
  | k + 1 => if L.getD k 0 = 0 then mn L k else if mn L k = 0 ∨ L.getD k 0 < mn L k then L.getD k 0 else mn L k
def mx (L : List Nat) : Nat → Nat
  | 0 => 0
  | k + 1 => if mx L k < L.getD k 0 then L.getD k 0 else mx L k
theorem mx_ge (L : List Nat) : ∀ (k i : Nat), i < k → L.getD i 0 ≤ mx L k
  | 0, i, h => by omega
  | k + 1, i, h => by
    simp only [mx]; rcases Nat.lt_or_ge i k with h1 | h1
    · have := mx_ge L k i h1
      split <;> omega
    · have : i = k := by omega
      subst this; split <;> omega
theorem mx_all (L : List Nat) (i : Nat) : L.getD i 0 ≤ mx L L.length := by
  rcases Nat.lt_or_ge i L.length with h1 | h1
  · exact mx_ge L _ _ h1
  · rw [List.getD_eq_getElem?_getD, List.getElem?_eq_none h1]; simp
theorem mx_has (L : List Nat) : ∀ k, mx L k = 0 ∨ ∃ i, i < k ∧ L.getD i 0 = mx L k
  | 0 => .inl rfl
  | k + 1 => by
    simp only [mx]
    split
    · exact .inr ⟨k, by omega, rfl⟩
    · rcases mx_has L k with h | ⟨i, h1, h2⟩
      · exact .inl h
      · exact .inr ⟨i, by omega, h2⟩
theorem mn_spec (L : List Nat) : ∀ k, (mn L k = 0 → ∀ i, i < k → L.getD i 0 = 0) ∧ (∀ i, i < k → L.getD i 0 = 0 ∨ mn L k ≤ L.getD i 0) ∧ mn L k ≤ mx L k
  | 0 => ⟨fun _ i h => by omega, fun i h => by omega, Nat.le_refl _⟩
  | k + 1 => by
    obtain ⟨h1, h2, h3⟩ := mn_spec L k; simp only [mn, mx]; by_cases hk : L.getD k 0 = 0
    · rw [if_pos hk, if_neg (by omega)]; refine ⟨fun h i hi => ?_, fun i hi => ?_, h3⟩
      · rcases Nat.lt_or_ge i k with h4 | h4
        · exact h1 h i h4
        · rw [show i = k by omega]; exact hk
      · rcases Nat.lt_or_ge i k with h4 | h4
        · exact h2 i h4
        · rw [show i = k by omega]; exact .inl hk
    · rw [if_neg hk]; by_cases hc : mn L k = 0 ∨ L.getD k 0 < mn L k
      · rw [if_pos hc]; refine ⟨fun h => absurd h hk, fun i hi => ?_, by split <;> omega⟩; rcases Nat.lt_or_ge i k with h4 | h4
        · rcases hc with hc | hc
          · exact .inl (h1 hc i h4)
          · rcases h2 i h4 with h5 | h5
            · exact .inl h5
            · exact .inr (by omega)
        · rw [show i = k by omega]; exact .inr (Nat.le_refl _)
      · rw [if_neg hc]; refine ⟨fun h => absurd (.inl h) hc, fun i hi => ?_, by split <;> omega⟩; rcases Nat.lt_or_ge i k with h4 | h4
        · exact h2 i h4
        · rw [show i = k by omega]; exact .inr (by omega)
theorem mn_all (L : List Nat) (i : Nat) : L.getD i 0 = 0 ∨ mn L L.length ≤ L.getD i 0 := by
  rcases Nat.lt_or_ge i L.length with h1 | h1
  · exact (mn_spec L L.length).2.1 i h1
  · rw [List.getD_eq_getElem?_getD, List.getElem?_eq_none h1]; simp
theorem mx_le {L : List Nat} (h15 : ∀ x ∈ L, x ≤ 15) (k : Nat) : mx L k ≤ 15 := by
  rcases mx_has L k with h | ⟨i, _, h⟩
  · omega
  · rw [← h]; exact getD_le h15 i
theorem mn_pos {L : List Nat} (h : mx L L.length ≠ 0) : 1 ≤ mn L L.length := by
  rcases Nat.eq_zero_or_pos (mn L L.length) with h1 | h1
  · exfalso
    rcases mx_has L L.length with h2 | ⟨i, hi, h2⟩
    · exact h h2
    · have := (mn_spec L L.length).1 h1 i hi; omega
  · exact h1

/-- how many codes there are of each length -/
def cntL (L : List Nat) (k : Nat) : List Nat := (List.range 16).map fun l => if l = 0 then 0 else rank L l k
theorem map_range_get {f : Nat → Nat} {n i : Nat} (h : i < n) : ((List.range n).map f).getD i 0 = f i := by
  rw [List.getD_eq_getElem?_getD, List.getElem?_map, List.getElem?_range h]; rfl
theorem map_range_set {f g : Nat → Nat} {n i v : Nat} (hv : g i = v) (h : ∀ j, j ≠ i → g j = f j) : ((List.range n).map f).set i v = (List.range n).map g := by
  apply List.ext_getElem
  · simp
  · intro j h1 h2; rw [List.getElem_set]
    split
    · rename_i e; subst e; simp [hv]
    · rename_i e; simp; exact (h j (fun e2 => e e2.symm)).symm
theorem cntL_get {L : List Nat} {k l : Nat} (h : l < 16) (h0 : l ≠ 0) : (cntL L k).getD l 0 = rank L l k := by
  unfold cntL; rw [map_range_get h, if_neg h0]
theorem cntL_step {L : List Nat} {k : Nat} (h : L.getD k 0 ≠ 0) (h16 : L.getD k 0 < 16) : (cntL L k).set (L.getD k 0) ((cntL L k).getD (L.getD k 0) 0 + 1) = cntL L (k + 1) := by
  rw [cntL_get h16 h]; refine map_range_set ?_ fun j hj => ?_
  · rw [if_neg h]; simp [rank]
  · simp only [rank, if_neg (fun e : L.getD k 0 = j => hj e.symm), Nat.add_zero]
theorem cntL_same {L : List Nat} {k : Nat} (h : L.getD k 0 = 0) : cntL L (k + 1) = cntL L k := by
  unfold cntL; apply List.map_congr_left; intro l _
  split
  · rfl
  · rename_i hl; simp only [rank, if_neg (fun e : L.getD k 0 = l => hl (by omega)), Nat.add_zero]
/-- the first codes of the lengths from the shortest up to i -/
def nxtL (L : List Nat) (i : Nat) : List Nat := (List.range 16).map fun l => if mn L L.length ≤ l ∧ l < i then 2 * cn L (l - 1) else 0
theorem nxtL_step {L : List Nat} {i : Nat} (h : mn L L.length ≤ i) : (nxtL L i).set i (2 * cn L (i - 1)) = nxtL L (i + 1) := by
  refine map_range_set ?_ fun j hj => ?_
  · rw [if_pos ⟨h, by omega⟩]
  · by_cases h1 : mn L L.length ≤ j ∧ j < i
    · rw [if_pos h1, if_pos (by omega)]
    · rw [if_neg h1, if_neg (by omega)]
/-- the next codes, behind the first k symbols -/
def nxtK (L : List Nat) (k : Nat) : List Nat := (List.range 16).map fun l => if mn L L.length ≤ l ∧ l ≤ mx L L.length then 2 * cn L (l - 1) + rank L l k else 0
theorem nxtK_zero (L : List Nat) : nxtL L (mx L L.length + 1) = nxtK L 0 := by
  unfold nxtL nxtK; apply List.map_congr_left; intro l _; simp only [rank, Nat.add_zero]; by_cases h1 : mn L L.length ≤ l ∧ l ≤ mx L L.length
  · rw [if_pos h1, if_pos (by omega)]
  · rw [if_neg h1, if_neg (by omega)]
theorem nxtK_get {L : List Nat} (h15 : ∀ x ∈ L, x ≤ 15) {k : Nat} (h : 1 ≤ L.getD k 0) : (nxtK L k).getD (L.getD k 0) 0 = codeOf L k := by
  have hl := getD_le h15 k; have h1 := mn_all L k; have h2 := mx_all L k; unfold nxtK; rw [map_range_get (by omega), if_pos (by omega), codeOf_eq h15 h, Nat.mul_comm]
theorem nxtK_step {L : List Nat} (h15 : ∀ x ∈ L, x ≤ 15) {k : Nat} (h : 1 ≤ L.getD k 0) : (nxtK L k).set (L.getD k 0) (codeOf L k + 1) = nxtK L (k + 1) := by
  have h1 := mn_all L k; have h2 := mx_all L k; refine map_range_set ?_ fun j hj => ?_
  · rw [if_pos (by omega), codeOf_eq h15 h]; simp [rank]; omega
  · simp only [rank, if_neg (fun e : L.getD k 0 = j => hj e.symm), Nat.add_zero]
theorem nxtK_same {L : List Nat} {k : Nat} (h : L.getD k 0 = 0) (hm : 1 ≤ mn L L.length) : nxtK L (k + 1) = nxtK L k := by
  unfold nxtK; apply List.map_congr_left; intro l _; by_cases h1 : mn L L.length ≤ l ∧ l ≤ mx L L.length
  · rw [if_pos h1, if_pos h1]; simp only [rank, if_neg (show ¬ L.getD k 0 = l by omega), Nat.add_zero]
  · rw [if_neg h1, if_neg h1]
theorem nxtL_ten {L : List Nat} (hM : 9 < mx L L.length) (hm : 1 ≤ mn L L.length) : (nxtL L (mx L L.length + 1)).getD 10 0 / 2 = cn L 9 := by
  unfold nxtL; rw [map_range_get (by omega)]; by_cases h1 : mn L L.length ≤ 10
  · rw [if_pos (by omega)]; show 2 * cn L 9 / 2 = _; omega
  · rw [if_neg (by omega), cn_min (m := mn L L.length) (mn_all L) 9 (by omega)]

/-! which codes are right -/
theorem kmany_zero {L : List Nat} : ∀ k, kmany L k = 0 ↔ mx L k = 0
  | 0 => by simp [kmany, mx]
  | k + 1 => by
    have := kmany_zero (L := L) k; simp only [kmany, mx]
    split <;> split <;> omega
theorem kones_rank (L : List Nat) : ∀ k, kones L k = rank L 1 k
  | 0 => rfl
  | k + 1 => by simp only [kones, rank, kones_rank L k]; split <;> rfl
theorem kmany_ones {L : List Nat} : ∀ k, kones L k ≤ kmany L k ∧ (kmany L k = kones L k ↔ mx L k ≤ 1)
  | 0 => by simp [kmany, kones, mx]
  | k + 1 => by
    obtain ⟨h1, h2⟩ := kmany_ones (L := L) k; have h3 := kmany_zero (L := L) k; simp only [kmany, kones, mx]
    split <;> split <;> split <;> omega
/-- the decompressor's own test -/
theorem okCode_iff {L : List Nat} (h15 : ∀ x ∈ L, x ≤ 15) (hM : mx L L.length ≠ 0) : okCode L = true ↔ cn L (mx L L.length) = 2 ^ mx L L.length ∨ cn L (mx L L.length) = 1 ∧ mx L L.length = 1 := by
  have hm15 := mx_le h15 L.length; have h1 := cn_max (L := L) (M := mx L L.length) (mx_all L) (15 - mx L L.length); rw [Nat.add_sub_cancel' hm15, ← ksum_cn h15] at h1; have h2 := kmany_zero (L := L) L.length; have h3 := kmany_ones (L := L) L.length; have e1 : ksum L L.length = 32768 ↔ cn L (mx L L.length) = 2 ^ mx L L.length := by
    have e : (32768 : Nat) = 2 ^ mx L L.length * 2 ^ (15 - mx L L.length) := by rw [← Nat.pow_add, Nat.add_sub_cancel' hm15]
    rw [h1, e]; exact ⟨fun h => Nat.eq_of_mul_eq_mul_right (Nat.two_pow_pos _) h, fun h => by rw [h]⟩
  have e2 : kmany L L.length = 1 ∧ kones L L.length = 1 ↔ cn L (mx L L.length) = 1 ∧ mx L L.length = 1 := by
    constructor
    · intro ⟨a, b⟩; have : mx L L.length = 1 := by have := h3.2.1 (by omega); omega
      rw [this]; refine ⟨?_, rfl⟩; show cn L 0 * 2 + rank L 1 L.length = 1; rw [← kones_rank, b]; rfl
    · intro ⟨a, b⟩; rw [b] at a; have hr : rank L 1 L.length = 1 := by
        have : cn L 1 = cn L 0 * 2 + rank L 1 L.length := rfl; have h0 : cn L 0 = 0 := rfl; omega
      rw [← kones_rank] at hr; have := h3.2.2 (by omega); omega
  unfold okCode; simp only [Bool.or_eq_true, Bool.and_eq_true, decide_eq_true_eq]; rw [e1, e2]; constructor
  · rintro (h | h | h)
    · exact .inl h
    · omega
    · exact .inr h
  · rintro (h | h)
    · exact .inl h
    · exact .inr (.inr h)
theorem okCode_le {L : List Nat} (h15 : ∀ x ∈ L, x ≤ 15) (h : okCode L = true) : cn L 15 ≤ 2 ^ 15 ∧ (cn L 15 = 2 ^ 15 ∨ mx L L.length ≤ 1) := by
  by_cases hM : mx L L.length = 0
  · have h1 := cn_max (L := L) (M := 0) (fun i => by have := mx_all L i; omega) 15; have h0 : cn L 0 = 0 := rfl; rw [Nat.zero_add, h0, Nat.zero_mul] at h1; omega
  · have hm15 := mx_le h15 L.length; have h1 := cn_max (L := L) (M := mx L L.length) (mx_all L) (15 - mx L L.length); rw [Nat.add_sub_cancel' hm15] at h1; rcases (okCode_iff h15 hM).1 h with h2 | ⟨h2, h3⟩
    · rw [h2, ← Nat.pow_add, Nat.add_sub_cancel' hm15] at h1; omega
    · rw [h2, h3] at h1; omega

/-! filling in steps -/
/-- all places that are r, apart from so many N, and lie ahead of off, hold v -/
def stp (N r v : Nat) (xs : List Nat) (off : Nat) : List Nat := (List.range xs.length).map fun i => if i % N = r ∧ i < off then v else xs.getD i 0
theorem stp_length (N r v : Nat) (xs : List Nat) (off : Nat) : (stp N r v xs off).length = xs.length := by simp [stp]
theorem stp_zero {N r v : Nat} {xs : List Nat} (off : Nat) (h : off ≤ r) : stp N r v xs off = xs := by
  apply List.ext_getElem
  · exact stp_length ..
  · intro i h1 h2; have : ¬ (i % N = r ∧ i < off) := by
      rintro ⟨a, b⟩; have := Nat.mod_le i N; omega
    simp [stp, this]; simp [h2]
theorem stp_step {N r v off : Nat} {xs : List Nat} (hN : 0 < N) (h : off % N = r) : (stp N r v xs off).set off v = stp N r v xs (off + N) := by
  refine map_range_set ?_ fun j hj => ?_
  · rw [if_pos ⟨h, by omega⟩]
  · by_cases h1 : j % N = r ∧ j < off
    · rw [if_pos h1, if_pos (by omega)]
    · rw [if_neg h1, if_neg]; rintro ⟨a, b⟩; have hlt : off < j := by
        rcases Nat.lt_or_ge j off with c | c
        · exact absurd ⟨a, c⟩ h1
        · omega
      have e : (off + (j - off)) % N = off % N := by rw [Nat.add_sub_cancel' (by omega), a, h]
      have e2 : (j - off) % N = 0 := by
        have := Nat.sub_mod_eq_zero_of_mod_eq e; rwa [Nat.add_sub_cancel_left] at this
      rw [Nat.mod_eq_of_lt (by omega)] at e2; omega
theorem stp_get {N r v off i : Nat} {xs : List Nat} (h : i < xs.length) (ho : xs.length ≤ off) : (stp N r v xs off).getD i 0 = if i % N = r then v else xs.getD i 0 := by
  unfold stp; rw [map_range_get h]; by_cases h1 : i % N = r
  · rw [if_pos ⟨h1, by omega⟩, if_pos h1]
  · rw [if_neg (fun h => h1 h.1), if_neg h1]
end Go.Proofs.YtpbahgddoamhgaaGreatDoor.Pu
