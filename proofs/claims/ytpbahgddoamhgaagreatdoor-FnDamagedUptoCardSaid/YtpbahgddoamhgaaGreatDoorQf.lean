/- Part 6 of 11 of the proof: the executor, the walks and the plain laws, in build order. -/
import Derived.Test.YtpbahgddoamhgaaGreatDoorQe
namespace Go.Proofs.YtpbahgddoamhgaaGreatDoor
open Go.Proofs.Tryz
open Go Sx Pu
set_option maxRecDepth 10000

namespace Pu
def zn (W : List Int) (at_ : Nat) : Int := if W.length = 0 then (at_ : Int) else IntKind.i64.wrap (W.getD (at_ % W.length) 0 + ((at_ / W.length : Nat) : Int))
def nxt (W : List Int) (at_ most : Nat) : Nat := (zn W at_ % (most : Int)).toNat
theorem nxt_lt (W : List Int) (at_ : Nat) {most : Nat} (h : 0 < most) : nxt W at_ most < most := by
  unfold nxt; have h1 := Int.emod_nonneg (zn W at_) (show (most : Int) ≠ 0 by omega); have h2 := Int.emod_lt_of_pos (zn W at_) (show (0 : Int) < most by omega); omega
abbrev WS := List Nat × Nat
def wpad (s : WS) : List Nat := if s.2 % 8 = 0 then s.1 ++ [0] else s.1
def wb1 (s : WS) (n : Nat) : WS := ((wpad s).set (s.2 / 8) ((wpad s).getD (s.2 / 8) 0 ||| n % 2 ^ 1 * 2 ^ (s.2 % 8)), s.2 + 1)
def wbits (s : WS) (n : Nat) : Nat → WS
  | 0 => s
  | k + 1 => wb1 (wbits s n k) (n / 2 ^ k)
def wcode (s : WS) (n : Nat) : Nat → WS
  | 0 => s
  | k + 1 => wcode (wb1 s (n / 2 ^ k)) n k
structure WOk (s : WS) : Prop where
  le : s.2 ≤ 8 * s.1.length
  lt : 8 * s.1.length < s.2 + 8
  by8 : ∀ c ∈ s.1, c < 256
theorem mem_set {l : List Nat} {i x c : Nat} (h : c ∈ l.set i x) : c ∈ l ∨ c = x := List.mem_or_eq_of_mem_set h
theorem getD_256 {l : List Nat} (h : ∀ c ∈ l, c < 256) (i : Nat) : l.getD i 0 < 256 := by
  rcases Nat.lt_or_ge i l.length with h1 | h1
  · rw [List.getD_eq_getElem?_getD, List.getElem?_eq_getElem h1]; exact h _ (List.getElem_mem h1)
  · rw [List.getD_eq_getElem?_getD, List.getElem?_eq_none h1]; decide
theorem wpad_spec {s : WS} (h : WOk s) : 8 * (wpad s).length = 8 * (s.2 / 8) + 8 ∧ ∀ c ∈ wpad s, c < 256 := by
  have h1 := h.le; have h2 := h.lt; unfold wpad; split
  · rw [List.length_append, List.length_singleton]; exact ⟨by omega, fun c hc => (List.mem_append.1 hc).elim (h.by8 c) fun e => by rw [List.mem_singleton.1 e]; decide⟩
  · exact ⟨by omega, h.by8⟩
theorem bit_lt (n k : Nat) : n % 2 ^ 1 * 2 ^ (k % 8) < 256 := by
  have h1 : 2 ^ (k % 8) ≤ 2 ^ 7 := Nat.pow_le_pow_right (by decide) (by omega); have h2 : n % 2 ^ 1 * 2 ^ (k % 8) ≤ 1 * 2 ^ 7 := Nat.mul_le_mul (by omega) h1; omega
theorem wb1_ok {s : WS} (h : WOk s) (n : Nat) : WOk (wb1 s n) := by
  obtain ⟨h1, h2⟩ := wpad_spec h; refine ⟨?_, ?_, fun c hc => ?_⟩
  · show s.2 + 1 ≤ 8 * (List.set _ _ _).length
    rw [List.length_set]; omega
  · show 8 * (List.set _ _ _).length < s.2 + 1 + 8
    rw [List.length_set]; omega
  · rcases mem_set hc with h3 | h3
    · exact h2 c h3
    · rw [h3]; exact Nat.or_lt_two_pow (n := 8) (getD_256 h2 _) (bit_lt _ _)
theorem wbits_ok {s : WS} (h : WOk s) (n : Nat) : ∀ k, WOk (wbits s n k)
  | 0 => h
  | k + 1 => wb1_ok (wbits_ok h n k) _
theorem wbits_at (s : WS) (n : Nat) : ∀ k, (wbits s n k).2 = s.2 + k
  | 0 => rfl
  | k + 1 => by show (wbits s n k).2 + 1 = _; rw [wbits_at s n k]; rfl
theorem wcode_ok {n : Nat} : ∀ k {s : WS} (_ : WOk s), WOk (wcode s n k)
  | 0, _, h => h
  | k + 1, _, h => wcode_ok k (wb1_ok h _)
theorem wcode_at {n : Nat} : ∀ k (s : WS), (wcode s n k).2 = s.2 + k
  | 0, _ => rfl
  | k + 1, s => by rw [wcode, wcode_at k]; show s.2 + 1 + k = _; omega
end Pu
theorem Sx.OwnV.elem {f : Nat → Value} {ty : TypeId} {p : Option Addr} {cap : Nat} {L : List Nat} {Hs : Hl} (h : OwnV f ty p cap L Hs) (hne : 0 < L.length) :
    ∃ b rest, p = some ⟨b, 0, none⟩ ∧ L.length ≤ cap ∧ rest.length = (cap - L.length) * 1 ∧ Hs = [(b, .cells (List.toArray (L.map f ++ rest)) ty (0, 0))] := by
  obtain ⟨_, ⟨_, h2, _⟩ | ⟨b, rest, cap2, h1, h2, h3, h4⟩⟩ := h
  · omega
  · injection h1 with e1 e2 e3
    subst e1 e3; exact ⟨b, rest, rfl, h2, h3, h4⟩
theorem Sx.OwnV.of {f : Nat → Value} {ty : TypeId} {b cap n : Nat} {L : List Nat} {rest : List Value} (hn : L.length = n) (h2 : n ≤ cap) (h3 : rest.length = (cap - n) * 1) : OwnV f ty (some ⟨b, 0, none⟩) cap L [(b, .cells (List.toArray (L.map f ++ rest)) ty (0, 0))] := by
  subst hn; exact ⟨by simp, .inr ⟨b, rest, cap, rfl, h2, h3, rfl⟩⟩
theorem map_get {f : Nat → Value} {L : List Nat} {rest : List Value} {i : Nat} (h : i < L.length) : (L.map f ++ rest)[i]? = some (f (L.getD i 0)) := by
  rw [List.getElem?_append_left (by rw [List.length_map]; exact h), List.getElem?_map, List.getElem?_eq_getElem h, getD_in h]; rfl
theorem map_put {f : Nat → Value} {L : List Nat} {rest : List Value} {i x : Nat} (h : i < L.length) : (L.map f ++ rest).set i (f x) = (L.set i x).map f ++ rest := by
  rw [List.set_append_left _ _ (by rw [List.length_map]; exact h), List.map_set]

abbrev chO (pl : Option Addr) (n capl at_ : Nat) : Obj := .cells (List.toArray [.slice pl n capl, iV at_]) 66 (0, 0)
abbrev wO (p : Option Addr) (n cap at_ : Nat) : Obj := .cells (List.toArray [.slice p n cap, iV at_]) 69 (0, 0)
def zf (W : List Int) (i : Nat) : Value := .int .i64 (W.getD i 0)
abbrev DatZ (p : Option Addr) (W : List Int) (D : Hl) : Prop := DatV (zf W) p (List.range W.length) D
def ZW (W : List Int) : Prop := ∀ i, -9223372036854775808 ≤ W.getD i 0 ∧ W.getD i 0 < 9223372036854775808
def WH (w : Nat) (s : WS) (G : Hl) : Prop := ∃ p cap Hs, OwnV bV 5 p cap s.1 Hs ∧ G = Hs ++ [(w, wO p s.1.length cap s.2)]
theorem wrap_lt (z : Int) : -9223372036854775808 ≤ IntKind.i64.wrap z ∧ IntKind.i64.wrap z < 9223372036854775808 := by
  simp only [IntKind.wrap, IntKind.bits, IntKind.signed, Bool.true_and]
  have h1 := Int.emod_nonneg z (show ((2 : Int) ^ 64) ≠ 0 by decide); have h2 := Int.emod_lt_of_pos z (show (0 : Int) < 2 ^ 64 by decide); refine ⟨?_, ?_⟩ <;> split <;> (rename_i h; first | omega | (simp at h; omega))
theorem zn_lt (W : List Int) {at_ : Nat} (h : at_ < 2 ^ 62) : -9223372036854775808 ≤ zn W at_ ∧ zn W at_ < 9223372036854775808 := by
  unfold zn; split
  · omega
  · exact wrap_lt _
theorem tmod3 {z : Int} {m : Nat} (hm : 0 < m) : (z.tmod m + m).tmod m = ((z % (m : Int)).toNat : Int) := by
  have h0 : (0 : Int) < m := by omega
  have h1 := Int.emod_nonneg z (show (m : Int) ≠ 0 by omega); have h2 := Int.emod_lt_of_pos z h0
  have hz : z.tmod m = z % m ∨ z.tmod m = z % m - m := by
    rcases Int.le_total 0 z with h | h
    · exact .inl (Int.tmod_eq_emod_of_nonneg h)
    · have e := Int.tmod_eq_emod (a := z) (b := (m : Int)); rw [e]; split
      · exact .inl (by omega)
      · right
        have : ((m : Int).natAbs : Int) = m := by omega
        omega
  have h3 : 0 ≤ z.tmod m + m := by rcases hz with h | h <;> omega
  rw [Int.tmod_eq_emod_of_nonneg h3]
  have e2 : (z.tmod m + m) % (m : Int) = z % m := by
    rcases hz with h | h
    · rw [h, Int.add_emod_right, Int.emod_emod_of_dvd _ (Int.dvd_refl _)]
    · rw [h, show z % (m : Int) - m + m = z % m by omega, Int.emod_emod_of_dvd _ (Int.dvd_refl _)]
  rw [e2]; omega
section
variable {D : Hl} {cb w most at_ n k capl : Nat} {pl : Option Addr} {V : List Int} {s : WS} {G : Hl}
theorem next_spec (hd : DatZ pl V D) (hW : ZW V) (hm : 0 < most) (hm2 : most < 2 ^ 62) (ha : at_ < 2 ^ 62) (hwl : V.length < 2 ^ 62) :
    CallsL Tryz.prog 30 #[.pointer (some ⟨cb, 0, none⟩), iV most] ((cb, chO pl V.length capl at_) :: D) fun v H' => v = iV (nxt V at_ most) ∧ H' = (cb, chO pl V.length capl (at_ + 1)) :: D := by
  have hz := zn_lt V ha; refine CallsL_of func30 rfl ntmps30 rfl ?_; try dsimp only [initE, Nat.zero_add]
  refine W_seq fun K1 hK1 => ?_; refine W_region ?_; refine xa rfl rfl ?_; refine WO_nil (sq_n (hK1 _ _ ?_)); refine W_seq fun K2 hK2 => ?_; refine W_region ?_; refine xm rfl rfl ?_; refine xn rfl rfl ?_; refine xp (v_fa (q := 1) rfl underlying66 rfl rfl sizeOf3 rfl) rfl ?_; refine xv (ld rfl rfl isAgg3) rfl ?_; refine xa rfl rfl ?_; refine WO_nil (sq_n (hK2 _ _ ?_)); refine W.keep [0,1,4,5] rfl ?_
  refine W_seq_mid (fun E H => Sub E [(0, .pointer (some ⟨cb, 0, none⟩)), (1, iV most), (5, .int .i64 (zn V at_))] ∧ H = (cb, chO pl V.length capl at_) :: D) ?_ ?_
  · skip
    refine W_seq fun K4 hK4 => ?_; refine W_region ?_; refine xm rfl rfl ?_; refine xn rfl rfl ?_; refine xp (v_fa (q := 0) rfl underlying66 rfl rfl sizeOf23 rfl) rfl ?_; refine xv (ld rfl rfl isAgg23) rfl ?_; refine xp (v_len rfl underlying23 rfl) rfl ?_; refine xp (n_gt rfl rfl rfl) rfl ?_; refine WO_nil (sq_n (hK4 _ _ ?_)); refine W.keep [0,1,4,5,15] rfl ?_; refine W_cond rfl (fun hc0 => ?_) (fun hc0 => ?_)
    · replace hc0 := of_decide_eq_true hc0; obtain ⟨b2, off, c, ty, fz, r, rfl, hat, hcc⟩ := hd (by intro e; rw [List.range_eq_nil] at e; omega); have hml := Nat.mod_lt at_ hc0; have hcell := hcc (at_ % V.length) (by rw [List.length_range]; exact hml); rw [List.getElem_range] at hcell; have hzw := hW (at_ % V.length); have hq := Nat.div_le_self at_ V.length; refine W_draw mixed ?_
      refine WA_k (fuel := 0) [0,1,2,3,4,5,6,7,8,9,10,11,12,13,14,15,16,17,18,19,20,21,22,23,24,25,26,27] rfl (by kernel_rfl) ?_; refine ym rfl rfl rfl ?_; refine yp rfl (v_nil rfl rfl) rfl ?_; refine yp rfl (v_fa (q := 0) rfl underlying66 rfl rfl sizeOf23 rfl) rfl ?_; refine yv rfl (ld rfl rfl isAgg23) rfl ?_; refine ym rfl rfl rfl ?_; refine yp rfl (v_nil rfl rfl) rfl ?_
      refine yp rfl (v_fa (q := 1) rfl underlying66 rfl rfl sizeOf3 rfl) rfl ?_; refine yv rfl (ld rfl rfl isAgg3) rfl ?_; refine ym rfl rfl rfl ?_; refine yp rfl (v_nil rfl rfl) rfl ?_; refine yp rfl (v_fa (q := 0) rfl underlying66 rfl rfl sizeOf23 rfl) rfl ?_; refine yv rfl (ld rfl rfl isAgg23) rfl ?_; refine yp rfl (v_len rfl underlying23 rfl) rfl ?_; refine yp rfl (n_rem rfl rfl rfl (by omega)) rfl ?_
      refine yp rfl (v_ixs rfl underlying23 sizeOf3 rfl rfl (by omega)) rfl ?_; refine yv rfl (v_ld rfl rfl isAgg3 (v := .int .i64 (V.getD (at_ % V.length) 0)) hcell) rfl ?_; refine ym rfl rfl rfl ?_; refine yp rfl (v_nil rfl rfl) rfl ?_; refine yp rfl (v_fa (q := 1) rfl underlying66 rfl rfl sizeOf3 rfl) rfl ?_; refine yv rfl (ld rfl rfl isAgg3) rfl ?_; refine ym rfl rfl rfl ?_; refine yp rfl (v_nil rfl rfl) rfl ?_
      refine yp rfl (v_fa (q := 0) rfl underlying66 rfl rfl sizeOf23 rfl) rfl ?_; refine yv rfl (ld rfl rfl isAgg23) rfl ?_; refine yp rfl (v_len rfl underlying23 rfl) rfl ?_; refine yp rfl (n_quo rfl rfl rfl kI (by omega) (by omega)) rfl ?_; refine yp rfl (v_add rfl rfl rfl (r := IntKind.i64.wrap (V.getD (at_ % V.length) 0 + ((at_ / V.length : Nat) : Int))) rfl) rfl ?_; refine yp rfl (v_as rfl rfl) rfl ?_
      refine WK_nil ?_; refine WA_nil (by kernel_rfl) (sq_n (?_)); unfold zn; first
      | (have hq : 0 < V.length := hc0; rw [if_neg (by omega)]; exact ⟨⟨rfl, rfl, rfl, trivial⟩, rfl⟩)
      | (have hq : ¬ 0 < V.length := hc0; rw [if_pos (by omega)]; exact ⟨⟨rfl, rfl, rfl, trivial⟩, rfl⟩)
    · replace hc0 := of_decide_eq_false hc0; refine W_skip (sq_n (?_)); unfold zn; first
      | (have hq : 0 < V.length := hc0; rw [if_neg (by omega)]; exact ⟨⟨rfl, rfl, rfl, trivial⟩, rfl⟩)
      | (have hq : ¬ 0 < V.length := hc0; rw [if_pos (by omega)]; exact ⟨⟨rfl, rfl, rfl, trivial⟩, rfl⟩)
  · rintro E H ⟨hE, rfl⟩; refine W.env hE ?_; refine W_seq fun K5 hK5 => ?_; refine W_region ?_; refine xm rfl rfl ?_; refine xn rfl rfl ?_; refine xp (v_fa (q := 1) rfl underlying66 rfl rfl sizeOf3 rfl) rfl ?_; refine xv (ld rfl rfl isAgg3) rfl ?_; refine xp (n_add rfl rfl rfl kI (by omega)) rfl ?_; refine xn rfl rfl ?_; refine xp (v_fa (q := 1) rfl underlying66 rfl rfl sizeOf3 rfl) rfl ?_
    refine wst rfl rfl rfl sizeOf3 rfl rfl rfl ?_; refine WO_nil (sq_n (hK5 _ _ ?_)); refine W.keep [1,5] rfl ?_; refine W_seq fun K6 hK6 => ?_; refine W_region ?_; refine xm rfl rfl ?_; refine xm rfl rfl ?_; refine xp (v_rem rfl rfl rfl (by omega) (r := (zn V at_).tmod most) rfl) rfl ?_; refine xm rfl rfl ?_
    refine xp (v_add rfl rfl rfl (r := (zn V at_).tmod most + most) (wrapI (by have := Int.lt_tmod_of_pos (zn V at_) (show (0 : Int) < most by omega); omega) (by have := Int.tmod_lt_of_pos (zn V at_) (show (0 : Int) < most by omega); omega))) rfl ?_; refine xm rfl rfl ?_; refine xp (v_rem rfl rfl rfl (by omega) (r := ((nxt V at_ most : Nat) : Int)) (tmod3 hm)) rfl ?_; refine xa rfl rfl ?_
    refine WO_nil (sq_n (hK6 _ _ ?_)); refine W.keep [4] rfl ?_; refine W_ret (ret_of (v := _) rfl ?_); exact ⟨rfl, rfl⟩
theorem wbit_spec (hw : WOk s) (hG : WH w s G) (hn : n < 2 ^ 63) (hb : s.1.length < 2 ^ 46) :
    CallsL Tryz.prog 31 #[.pointer (some ⟨w, 0, none⟩), iV n] G fun _ H' => WH w (wb1 s n) H' := by
  obtain ⟨p, cap, Hs, hO, rfl⟩ := hG; obtain ⟨b, at_⟩ := s; have h1 := hw.le; have h2 := hw.lt; obtain ⟨hp1, hp2⟩ := wpad_spec hw; have hbl := bit_lt n at_; dsimp only at *; refine CallsL_of func31 rfl ntmps31 rfl ?_; try dsimp only [initE, Nat.zero_add]
  refine W_seq_mid (fun E H => ∃ p cap Hs, OwnV bV 5 p cap (wpad (b, at_)) Hs ∧ Sub E [(0, .pointer (some ⟨w, 0, none⟩)), (1, iV n)] ∧ H = Hs ++ [(w, wO p (wpad (b, at_)).length cap at_)]) ?_ ?_
  · skip
    refine W_seq fun K2 hK2 => ?_; refine W_region ?_; refine xm rfl rfl ?_; refine xn rfl rfl ?_; refine xp (v_fa (q := 1) rfl underlying69 rfl rfl sizeOf3 rfl) rfl ?_; refine xv (ld rfl rfl isAgg3) rfl ?_; refine xp (n_rem rfl rfl rfl (by omega)) rfl ?_; refine xp (n_eq rfl rfl rfl) rfl ?_; refine WO_nil (sq_n (hK2 _ _ ?_)); refine W.keep [0,1,9] rfl ?_; refine W_cond rfl (fun hc0 => ?_) (fun hc0 => ?_)
    · replace hc0 := of_decide_eq_true hc0; refine W_region ?_; refine xm rfl rfl ?_; refine xm rfl rfl ?_; refine xn rfl rfl ?_; refine xp (v_fa (q := 0) rfl underlying69 rfl rfl sizeOf22 rfl) rfl ?_; refine xv (ld rfl rfl isAgg22) rfl ?_
      refine wapp1 (bytes := 1) underlying22 sizeOf5 typeInfo5 rfl zeroValue5 rfl hO rfl (fun _ => rfl) (by omega) (by decide) rfl rfl (c := 0) rfl rfl rfl rfl rfl rfl rfl (fun _ => rfl) (fun _ => rfl) ?_; intro vb p2 cap2 Hs2 hO2; refine xn rfl rfl ?_; refine xp (v_fa (q := 0) rfl underlying69 rfl rfl sizeOf22 rfl) rfl ?_; refine wst rfl rfl rfl sizeOf22 rfl rfl rfl ?_; refine WO_nil (sq_n (?_)); unfold wpad; first
      | (have hq : at_ % 8 = 0 := hc0; rw [if_pos hq]; exact ⟨p2, cap2, Hs2, hO2, ⟨rfl, rfl, trivial⟩, rfl⟩)
      | (have hq : ¬ at_ % 8 = 0 := hc0; rw [if_neg hq]; exact ⟨p, cap, Hs, hO, ⟨rfl, rfl, trivial⟩, rfl⟩)
    · replace hc0 := of_decide_eq_false hc0; refine W_skip (sq_n (?_)); unfold wpad; first
      | (have hq : at_ % 8 = 0 := hc0; rw [if_pos hq]; exact ⟨p2, cap2, Hs2, hO2, ⟨rfl, rfl, trivial⟩, rfl⟩)
      | (have hq : ¬ at_ % 8 = 0 := hc0; rw [if_neg hq]; exact ⟨p, cap, Hs, hO, ⟨rfl, rfl, trivial⟩, rfl⟩)
  · clear hO; rintro E H ⟨p, cap, Hs, hO, hE, rfl⟩; refine W.env hE ?_; have hwb : wb1 (b, at_) n = ((wpad (b, at_)).set (at_ / 8) ((wpad (b, at_)).getD (at_ / 8) 0 ||| n % 2 ^ 1 * 2 ^ (at_ % 8)), at_ + 1) := rfl; generalize wpad (b, at_) = c at *; obtain ⟨bb, rest, rfl, hcl, hrl, rfl⟩ := hO.elem (by omega); have hg := getD_256 hp2 (at_ / 8); dsimp only [List.cons_append, List.nil_append]
    refine W_seq fun K3 hK3 => ?_; refine W_draw mixed ?_; refine WA_k (fuel := 1) [0,1,2,3,4,5,6,7,8,9,10,11,12,13,14,15,16,17,18,19,20,21] rfl (by kernel_rfl) ?_; refine ym rfl rfl rfl ?_; refine yp rfl (v_nil rfl rfl) rfl ?_; refine yp rfl (v_fa (q := 0) rfl underlying69 rfl rfl sizeOf22 rfl) rfl ?_; refine yv rfl (ld rfl rfl isAgg22) rfl ?_; refine ym rfl rfl rfl ?_; refine yp rfl (v_nil rfl rfl) rfl ?_
    refine yp rfl (v_fa (q := 1) rfl underlying69 rfl rfl sizeOf3 rfl) rfl ?_; refine yv rfl (ld rfl rfl isAgg3) rfl ?_; refine yp rfl (n_quo rfl rfl rfl kI (by omega) (by omega)) rfl ?_; refine yp rfl (v_ixs rfl underlying22 sizeOf5 rfl rfl (by omega)) rfl ?_; refine yv rfl (v_ld rfl rfl isAgg5 (map_get (f := bV) (by omega))) rfl ?_; refine ym rfl rfl rfl ?_
    refine yp rfl (n_mask 1 rfl rfl rfl kI (by omega) (by decide) (by decide)) rfl ?_; refine yp rfl (n_cv rfl underlying3 underlying5 rfl kB (by omega)) rfl ?_; refine ym rfl rfl rfl ?_; refine yp rfl (v_nil rfl rfl) rfl ?_; refine yp rfl (v_fa (q := 1) rfl underlying69 rfl rfl sizeOf3 rfl) rfl ?_; refine yv rfl (ld rfl rfl isAgg3) rfl ?_; refine yp rfl (n_rem rfl rfl rfl (by omega)) rfl ?_
    refine yp rfl (n_shl rfl rfl rfl kB (by show _ ≤ 8; omega) (by omega)) rfl ?_; refine yp rfl (n_or rfl rfl rfl kB (by omega) (by omega)) rfl ?_; refine yp rfl (v_ixs rfl underlying22 sizeOf5 rfl rfl (by omega)) rfl ?_; refine WK_nil ?_; refine WA_one (k := 22) rfl (by kernel_rfl) ?_; refine wst' rfl rfl rfl sizeOf5 rfl (map_put (f := bV) (by omega)) (by rw [List.length_append, List.length_map]; omega) rfl rfl ?_
    refine WO_nil (sq_n ?_); refine WA_nil (by kernel_rfl) (sq_n (hK3 _ _ ?_)); refine W.keep [0] rfl ?_; refine W_region ?_; refine xm rfl rfl ?_; refine xn rfl rfl ?_; refine xp (v_fa (q := 1) rfl underlying69 rfl rfl sizeOf3 rfl) rfl ?_; refine xv (ld rfl rfl isAgg3) rfl ?_; refine xp (n_add rfl rfl rfl kI (by omega)) rfl ?_; refine xn rfl rfl ?_
    refine xp (v_fa (q := 1) rfl underlying69 rfl rfl sizeOf3 rfl) rfl ?_; refine wst rfl rfl rfl sizeOf3 rfl rfl rfl ?_; refine WO_nil (end_of (v := _) rfl ?_); rw [hwb]; exact ⟨_, cap, _, OwnV.of (List.length_set) hcl hrl, by rw [List.length_set]; rfl⟩
theorem wbits_spec (hw : WOk s) (hG : WH w s G) (hn : n < 2 ^ 63) (hk : k ≤ 63) (hb : s.1.length < 2 ^ 45) :
    CallsL Tryz.prog 32 #[.pointer (some ⟨w, 0, none⟩), iV n, iV k] G fun _ H' => WH w (wbits s n k) H' := by
  refine CallsL_of func32 rfl ntmps32 rfl ?_; try dsimp only [initE, Nat.zero_add]
  refine W_seq fun K1 hK1 => ?_; refine W_region ?_; refine xm rfl rfl ?_; refine xm rfl rfl ?_; refine WO_nil (sq_n (hK1 _ _ ?_)); refine W_block ?_; refine W_loop (fun m E H => ∃ i, i ≤ k ∧ m = k - i ∧ WH w (wbits s n i) H ∧ Sub E [(0, .pointer (some ⟨w, 0, none⟩)), (1, iV n), (7, iV k), (8, iV i)]) (m := _) (⟨0, Nat.zero_le _, rfl, hG, ⟨rfl, rfl, rfl, rfl, trivial⟩⟩) ?_; clear hG; rintro m E H ⟨i, hi, rfl, hG, hE⟩
  refine W.env hE ?_; have hwi := wbits_ok hw n i; have hat := wbits_at s n i; have h1 := hwi.le; have h2 := hwi.lt; have h3 := hw.le; have h4 := hw.lt; refine W_seq fun K2 hK2 => ?_; refine W_region ?_; refine xp (n_lt rfl rfl rfl) rfl ?_; refine WO_nil (sq_n (hK2 _ _ ?_)); refine W_seq fun K3 hK3 => ?_; refine W_cond rfl (fun hc0 => ?_) (fun hc0 => ?_)
  · replace hc0 := of_decide_eq_true hc0; refine W_skip (sq_n (hK3 _ _ ?_)); refine W_seq fun K4 hK4 => ?_; refine W_block ?_; refine W_seq fun K5 hK5 => ?_; refine W_region ?_; refine xm rfl rfl ?_; refine xa rfl rfl ?_; refine WO_nil (sq_n (hK5 _ _ ?_)); refine W_region ?_; refine xm rfl rfl ?_; refine xm rfl rfl ?_; refine xm rfl rfl ?_; refine xp (n_shr rfl rfl rfl (by show _ ≤ 64; omega)) rfl ?_
    refine wc (e_c rfl rfl rfl call31) rfl rfl rfl (wbit_spec hwi hG (Nat.lt_of_le_of_lt (Nat.div_le_self _ _) hn) (by omega)) .all ?_; intro _ H2 hG2; (try simp only [ap4]); refine WO_nil (bl_n (sq_n (hK4 _ _ ?_))); refine W_region ?_; refine xp (n_add rfl rfl rfl kI (by omega)) rfl ?_; refine xm rfl rfl ?_; refine WO_nil (sq_n (?_))
    exact ⟨k - (i + 1), by omega, i + 1, by omega, rfl, hG2, ⟨rfl, rfl, rfl, rfl, trivial⟩⟩
  · replace hc0 := of_decide_eq_false hc0; obtain rfl : i = k := by omega
    refine W_exit (sq_x (sq_x (bl_x (end_of (v := _) rfl ?_)))); exact hG
theorem wcode_spec (hw : WOk s) (hG : WH w s G) (hn : n < 2 ^ 63) (hk : k ≤ 63) (hb : s.1.length < 2 ^ 45) :
    CallsL Tryz.prog 45 #[.pointer (some ⟨w, 0, none⟩), iV n, iV k] G fun _ H' => WH w (wcode s n k) H' := by
  have h3 := hw.le; have h4 := hw.lt; refine CallsL_of func45 rfl ntmps45 rfl ?_; try dsimp only [initE, Nat.zero_add]
  refine W_seq fun K1 hK1 => ?_; refine W_region ?_; refine xm rfl rfl ?_; refine xp (v_sub rfl rfl rfl (r := (k : Int) - 1) (wrapI (by omega) (by omega))) rfl ?_; refine xa rfl rfl ?_; refine WO_nil (sq_n (hK1 _ _ ?_)); refine W.keep [0,1,6] rfl ?_; refine W_block ?_
  refine W_loop (fun m E H => ∃ j t, j ≤ k ∧ j = m ∧ WOk t ∧ t.2 + j = s.2 + k ∧ wcode t n j = wcode s n k ∧ WH w t H ∧ Sub E [(0, .pointer (some ⟨w, 0, none⟩)), (1, iV n), (6, .int .i64 ((j : Int) - 1))]) (m := _) (⟨k, s, Nat.le_refl _, rfl, hw, rfl, rfl, hG, ⟨rfl, rfl, rfl, trivial⟩⟩) ?_; clear hG; rintro m E H ⟨j, t, hj, rfl, hwt, hat, hwc, hG, hE⟩; refine W.env hE ?_; have h1 := hwt.le; have h2 := hwt.lt
  refine W_seq fun K2 hK2 => ?_; refine W_seq fun K3 hK3 => ?_; refine W_region ?_; refine xm rfl rfl ?_; refine xp (v_ge rfl rfl rfl rfl) rfl ?_; refine WO_nil (sq_n (hK3 _ _ ?_)); refine W_cond rfl (fun hc0 => ?_) (fun hc0 => ?_)
  · replace hc0 := of_decide_eq_true hc0; obtain ⟨j, rfl⟩ : ∃ i, j = i + 1 := ⟨j - 1, by omega⟩; rw [show ((j + 1 : Nat) : Int) - 1 = (j : Int) by omega]; refine W_skip (sq_n (hK2 _ _ ?_)); refine W_seq fun K4 hK4 => ?_; refine W_block ?_; refine W_region ?_; refine xm rfl rfl ?_; refine xm rfl rfl ?_; refine xm rfl rfl ?_; refine xp (n_shr rfl rfl rfl (by show _ ≤ 64; omega)) rfl ?_
    refine wc (e_c rfl rfl rfl call31) rfl rfl rfl (wbit_spec hwt hG (Nat.lt_of_le_of_lt (Nat.div_le_self _ _) hn) (by omega)) .all ?_; intro _ H2 hG2; (try simp only [ap4]); refine WO_nil (bl_n (sq_n (hK4 _ _ ?_))); refine W_region ?_; refine xm rfl rfl ?_; refine xp (v_sub rfl rfl rfl (r := (j : Int) - 1) (wrapI (by omega) (by omega))) rfl ?_; refine xa rfl rfl ?_; refine WO_nil (sq_n (?_))
    exact ⟨j, by omega, j, _, by omega, rfl, wb1_ok hwt _, by show t.2 + 1 + j = _; omega, hwc, hG2, ⟨rfl, rfl, rfl, trivial⟩⟩
  · replace hc0 := of_decide_eq_false hc0; obtain rfl : j = 0 := by omega
    refine W_exit (sq_x (sq_x (bl_x (end_of (v := _) rfl ?_)))); exact hwc ▸ hG
theorem walign_spec (hG : WH w s G) (hb : s.1.length < 2 ^ 46) : CallsL Tryz.prog 34 #[.pointer (some ⟨w, 0, none⟩)] G fun _ H' => WH w (s.1, 8 * s.1.length) H' := by
  obtain ⟨p, cap, Hs, hO, rfl⟩ := hG; refine CallsL_of func34 rfl ntmps34 rfl ?_; try dsimp only [initE, Nat.zero_add]
  refine W_region ?_; refine xm rfl rfl ?_; refine xm rfl rfl ?_; refine xn rfl rfl ?_; refine xp (v_fa (q := 0) rfl underlying69 rfl rfl sizeOf22 rfl) rfl ?_; refine xv (ld rfl rfl isAgg22) rfl ?_; refine xp (v_len rfl underlying22 rfl) rfl ?_; refine xp (n_mul rfl rfl rfl kI (by omega)) rfl ?_; refine xn rfl rfl ?_; refine xp (v_fa (q := 1) rfl underlying69 rfl rfl sizeOf3 rfl) rfl ?_
  refine wst rfl rfl rfl sizeOf3 rfl rfl rfl ?_; refine WO_nil (end_of (v := _) rfl ?_); exact ⟨p, cap, Hs, hO, rfl⟩
end
end Go.Proofs.YtpbahgddoamhgaaGreatDoor
namespace Go.Proofs.YtpbahgddoamhgaaGreatDoor
open Go.Proofs.Tryz
open Go Sx Pu
set_option maxRecDepth 10000

namespace Pu
abbrev T3 := Nat × Nat × Nat
def symD (base : Nat → Nat) (v lo : Nat) : Nat → Nat
  | 0 => lo
  | k + 1 => if base (lo + (k + 1)) ≤ v then lo + (k + 1) else symD base v lo k
def lsym (l : Nat) : Nat := if l = 258 then 285 else symD lenBase l 257 27
def dsym (d : Nat) : Nat := symD distBase d 0 29
def lmore (l : Nat) : Nat := if l = 258 then 0 else l - lenBase (lsym l)
def lext (l : Nat) : Nat := if l = 258 then 0 else lenExtra (lsym l)
theorem symD_bd {base : Nat → Nat} {v lo : Nat} (h0 : base lo ≤ v) : ∀ k, base (symD base v lo k) ≤ v ∧ lo ≤ symD base v lo k ∧ symD base v lo k ≤ lo + k
  | 0 => ⟨h0, Nat.le_refl _, Nat.le_refl _⟩
  | k + 1 => by
    rw [symD]; split
    · rename_i h; exact ⟨h, by omega, Nat.le_refl _⟩
    · have := symD_bd h0 k; exact ⟨this.1, this.2.1, by omega⟩
theorem lsym_bd {l : Nat} (h : 3 ≤ l) : 257 ≤ lsym l ∧ lsym l ≤ 285 := by
  unfold lsym; split
  · omega
  · have := symD_bd (base := lenBase) (v := l) (lo := 257) h 27; omega
theorem dsym_bd {d : Nat} (h : 1 ≤ d) : dsym d ≤ 29 := by
  have := symD_bd (base := distBase) (v := d) (lo := 0) h 29; unfold dsym; omega
def mrun (A : List Nat) (i far : Nat) : Nat → Nat → Nat
  | 0, l => l
  | k + 1, l => if i + l < A.length ∧ A.getD (i + l) 0 = A.getD (i + l - far) 0 then mrun A i far k (l + 1) else l
def mlen (A : List Nat) (i far : Nat) : Nat := mrun A i far 258 0
def tfar (V : List Int) (at_ i : Nat) : Nat := if nxt V (at_ + 2) 2 = 0 then 1 + nxt V (at_ + 1) (min i 32768) % min i 8 else 1 + nxt V (at_ + 1) (min i 32768)
theorem tfar_bd (V : List Int) (at_ : Nat) {i : Nat} (h : 0 < i) : 1 ≤ tfar V at_ i ∧ tfar V at_ i ≤ i ∧ tfar V at_ i ≤ 32768 := by
  have h1 := nxt_lt V (at_ + 1) (most := min i 32768) (by omega); have h2 := Nat.mod_lt (nxt V (at_ + 1) (min i 32768)) (show 0 < min i 8 by omega); unfold tfar; split <;> omega
theorem mrun_bd {A : List Nat} {i far : Nat} : ∀ k l, i + l ≤ A.length → i + mrun A i far k l ≤ A.length ∧ mrun A i far k l ≤ l + k
  | 0, l, h => ⟨h, Nat.le_refl _⟩
  | k + 1, l, h => by
    rw [mrun]; split
    · rename_i h1
      have := mrun_bd (A := A) (i := i) (far := far) k (l + 1) (by omega); omega
    · exact ⟨h, by omega⟩
def tstep (A : List Nat) (V : List Int) (i at_ : Nat) : T3 × Nat × Nat :=
  if 0 < i ∧ 0 < nxt V at_ 3 then
    (if mlen A i (tfar V at_ i) < 3 then ((A.getD i 0, 0, 0), i + 1, at_ + 3)
     else ((0, tfar V at_ i, 3 + nxt V (at_ + 3) (mlen A i (tfar V at_ i) - 2)), i + (3 + nxt V (at_ + 3) (mlen A i (tfar V at_ i) - 2)), at_ + 4))
  else ((A.getD i 0, 0, 0), i + 1, if 0 < i then at_ + 1 else at_)
def toks (A : List Nat) (V : List Int) : Nat → Nat → Nat → List T3 × Nat
  | 0, _, at_ => ([], at_)
  | k + 1, i, at_ => if i < A.length then ((tstep A V i at_).1 :: (toks A V k (tstep A V i at_).2.1 (tstep A V i at_).2.2).1, (toks A V k (tstep A V i at_).2.1 (tstep A V i at_).2.2).2) else ([], at_)
def TokOk (t : T3) : Prop := (t.2.1 = 0 ∧ t.1 < 256) ∨ (1 ≤ t.2.1 ∧ t.2.1 ≤ 32768 ∧ 3 ≤ t.2.2 ∧ t.2.2 ≤ 258)
theorem tstep_ok {A : List Nat} (hA : ∀ c ∈ A, c < 256) (V : List Int) (i at_ : Nat) (h : i < A.length) : TokOk (tstep A V i at_).1 ∧ i + 1 ≤ (tstep A V i at_).2.1 ∧ (tstep A V i at_).2.1 ≤ A.length ∧ at_ ≤ (tstep A V i at_).2.2 ∧ (tstep A V i at_).2.2 ≤ at_ + 4 := by
  have hl := getD_256 hA i; unfold tstep; split
  · rename_i hi
    have hb := tfar_bd V at_ hi.1; have hm := mrun_bd (A := A) (i := i) (far := tfar V at_ i) 258 0 (by omega); change i + mlen A i (tfar V at_ i) ≤ _ ∧ mlen A i (tfar V at_ i) ≤ _ at hm
    split
    · exact ⟨.inl ⟨rfl, hl⟩, by simp only; omega, by simp only; omega, by simp only; omega, by simp only; omega⟩
    · rename_i h3
      have hn := nxt_lt V (at_ + 3) (most := mlen A i (tfar V at_ i) - 2) (by omega); exact ⟨.inr ⟨by simp only; omega, by simp only; omega, by simp only; omega, by simp only; omega⟩, by simp only; omega, by simp only; omega, by simp only; omega, by simp only; omega⟩
  · exact ⟨.inl ⟨rfl, hl⟩, by simp only; omega, by simp only; omega, by simp only; split <;> omega, by simp only; split <;> omega⟩
theorem toks_ok {A : List Nat} (hA : ∀ c ∈ A, c < 256) (V : List Int) : ∀ k i at_, i ≤ A.length → (∀ t ∈ (toks A V k i at_).1, TokOk t) ∧ (toks A V k i at_).1.length ≤ A.length - i ∧ at_ ≤ (toks A V k i at_).2 ∧ (toks A V k i at_).2 ≤ at_ + 4 * (A.length - i)
  | 0, i, at_, _ => ⟨by simp [toks], by simp [toks], Nat.le_refl _, by simp [toks]⟩
  | k + 1, i, at_, hi => by
    rw [toks]; split
    · rename_i h
      obtain ⟨h1, h2, h3, h4, h5⟩ := tstep_ok hA V i at_ h; obtain ⟨g1, g2, g3, g4⟩ := toks_ok hA V k _ (tstep A V i at_).2.2 h3; refine ⟨fun t ht => ?_, ?_, ?_, ?_⟩
      · rcases List.mem_cons.1 ht with rfl | ht
        · exact h1
        · exact g1 t ht
      · simp only [List.length_cons]; omega
      · simp only; omega
      · simp only; omega
    · exact ⟨by simp, by simp, Nat.le_refl _, by simp only; omega⟩
end Pu
def fl (L : List T3) : List Value := L.flatMap fun t => [iV t.1, iV t.2.1, iV t.2.2]
theorem fl_length : ∀ L : List T3, (fl L).length = L.length * 3
  | [] => rfl
  | t :: L => by show (_ :: _ :: _ :: fl L).length = _; simp only [List.length_cons, fl_length L]; omega
theorem fl_get : ∀ (L : List T3) (i : Nat) (h : i < L.length), (fl L)[i * 3]? = some (iV L[i].1) ∧ (fl L)[i * 3 + 1]? = some (iV L[i].2.1) ∧ (fl L)[i * 3 + 2]? = some (iV L[i].2.2)
  | t :: L, 0, _ => ⟨rfl, rfl, rfl⟩
  | t :: L, i + 1, h => by
    have := fl_get L i (by simpa using h); rw [show (i + 1) * 3 = i * 3 + 1 + 1 + 1 by omega]; exact this
def OwnT (ty : TypeId) (p : Option Addr) (cap : Nat) (L : List T3) (Hs : Hl) : Prop := Own 3 ty (.slice p L.length cap) (fl L) L.length Hs
def DatT (p : Option Addr) (L : List T3) (D : Hl) : Prop := L ≠ [] → ∃ b c ty fz r, p = some ⟨b, 0, none⟩ ∧ AtH D b (.cells (List.toArray c) ty fz) r ∧ ∀ i (h : i < L.length), c[i * 3]? = some (iV L[i].1) ∧ c[i * 3 + 1]? = some (iV L[i].2.1) ∧ c[i * 3 + 2]? = some (iV L[i].2.2)
theorem OwnT.nil {ty : TypeId} : OwnT ty none 0 [] [] := ⟨rfl, .inl ⟨rfl, rfl, rfl⟩⟩
theorem OwnT.dat {ty : TypeId} {p : Option Addr} {cap : Nat} {L : List T3} {Hs : Hl} (h : OwnT ty p cap L Hs) : DatT p L Hs := fun hne => by
  have hl : 0 < L.length := List.length_pos_iff.2 hne; obtain ⟨_, ⟨_, h2, _⟩ | ⟨b, rest, cap2, h1, h2, h3, h4⟩⟩ := h
  · omega
  · injection h1 with e1 e2 e3
    subst e1 h4; refine ⟨b, _, _, _, _, rfl, AtH.here, fun i hi => ?_⟩; have hf := fl_length L; obtain ⟨g1, g2, g3⟩ := fl_get L i hi; rw [List.getElem?_append_left (by omega), List.getElem?_append_left (by omega), List.getElem?_append_left (by omega)]; exact ⟨g1, g2, g3⟩
theorem DatT.appl {p : Option Addr} {L : List T3} {D : Hl} (h : DatT p L D) (G : Hl) : DatT p L (D ++ G) := fun hne => by
  obtain ⟨b, c, ty, fz, r, h1, h2, h3⟩ := h hne; exact ⟨b, c, ty, fz, _, h1, h2.appl, h3⟩
theorem DatT.app {p : Option Addr} {L : List T3} {D : Hl} (h : DatT p L D) (G : Hl) : DatT p L (G ++ D) := fun hne => by
  obtain ⟨b, c, ty, fz, r, h1, h2, h3⟩ := h hne; exact ⟨b, c, ty, fz, _, h1, AtH.app, h3⟩
section
variable {P : Program} {n : Nat} {Q : Exit → El → Hl → Prop} {E : El} {H : Hl} {ops : Array Oper} {o : Oper} {l : List Oper}
theorem wappT {o2 : Oper} {t e : TypeId} {x : Operand} {bytes cap d1 d2 a b c : Nat} {zv : Value} {p : Option Addr} {L : List T3} {Hs H2 : Hl} {ti : TypeInfo}
    (hu : P.underlying t = some (.slice e)) (hz : ∀ w, (sizeOf e).run P w = .ok 3 w)
    (hti : ∀ w, (typeInfo e).run P w = .ok ti w) (hby : ti.bytes = bytes) (hzv : ∀ w, (zeroValue e).run P w = .ok zv w) (hzs : zv.cells.size = 3)
    (hown : OwnT e p cap L Hs) (hH : H = Hs ++ H2) (hlen : (2 * (L.length + 1) + 1000) * bytes ≤ 2 ^ 48) (hl2 : L.length < 2 ^ 61)
    (hv : OS P n E H o (fun v H' => ∃ b0, v = .slice (some ⟨b0, 0, none⟩) 1 1 ∧ H' = (b0, .cells (List.toArray [iV a, iV b, iV c]) e) :: H ∧ ∀ p ∈ H, p.1 ≠ b0)) (hg1 : gd ops E o = some true) (hd1 : o.dst = some d1) (hn1 : Nat.blt d1 n = true)
    (ho2 : o2.op = .call ⟨.builtin .append, #[x, .tmp d1], #[t, t]⟩) (hd2 : o2.dst = some d2) (hn2 : Nat.blt d2 n = true)
    (hx : ∀ v, ev ((d1, v) :: E) x = some (.slice p L.length cap)) (hg2 : ∀ v, gd ops ((d1, v) :: E) o2 = some true)
    (h : ∀ vb p' cap' Hs', OwnT e p' cap' (L ++ [(a, b, c)]) Hs' → WO P n ops l Q ((d2, .slice p' (L ++ [(a, b, c)]).length cap') :: (d1, vb) :: E) (Hs' ++ H2)) : WO P n ops (o :: o2 :: l) Q E H := by
  subst hH; refine ws hv hg1 hd1 hn1 ?_; rintro _ _ ⟨b0, rfl, rfl, _⟩; refine WO_drop (H' := Hs ++ (b0, .cells (List.toArray [iV a, iV b, iV c]) e) :: H2) (H2 := []) (.of (by rw [List.append_nil]; exact List.perm_middle.symm)) ?_; have hev : ev ((d1, Value.slice (some ⟨b0, 0, none⟩) 1 1) :: E) (.tmp d1) = some (.slice (some ⟨b0, 0, none⟩) 1 1) := by simp [ev, lk]
  have hrd : Rd 3 (some ⟨b0, 0, none⟩) [iV a, iV b, iV c] 1 (Hs ++ (b0, .cells (List.toArray [iV a, iV b, iV c]) e) :: H2) := ⟨rfl, fun _ => ⟨b0, 0, _, e, (0, 0), _, rfl, AtH.app, fun j _ => by rw [Nat.zero_add]⟩⟩
  refine ws (v_app ho2 hu hu hz hti hby hzv hzs (hx _) hev hown rfl hrd (fun u hu => by
    simp only [List.mem_cons, List.not_mem_nil, or_false] at hu
    rcases hu with rfl | rfl | rfl <;> rfl) hlen (by omega)) (hg2 _) hd2 hn2 ?_
  rintro v' H' ⟨Hs', hO, rfl⟩
  have hO' : Own 3 e v' (fl (L ++ [(a, b, c)])) (L ++ [(a, b, c)]).length Hs' := by
    rw [List.length_append, List.length_singleton]; have e1 : fl (L ++ [(a, b, c)]) = fl L ++ [iV a, iV b, iV c] := by simp [fl, List.flatMap_append]
    rw [e1]; exact hO
  obtain ⟨p', cap', rfl, _⟩ := hO'.sl; refine WO_drop (H2 := [(b0, .cells (List.toArray [iV a, iV b, iV c]) e)]) (.of ?_) (h _ p' cap' Hs' hO'); rw [List.append_assoc]; exact List.Perm.append_left _ (List.perm_append_singleton _ _).symm
end
theorem lengthSymbol_spec {v : Nat} (h : 3 ≤ v) (h2 : v ≤ 258) : CallsL Tryz.prog 46 #[iV v] [] fun r H' => r = .tuple #[iV (lsym v), iV (lmore v), iV (lext v)] ∧ H' = [] := by
  refine CallsL_of func46 rfl ntmps46 rfl ?_; try dsimp only [initE, Nat.zero_add]
  refine W_seq fun K1 hK1 => ?_; refine W_region ?_; refine xa rfl rfl ?_; refine xa rfl rfl ?_; refine xa rfl rfl ?_; refine WO_nil (sq_n (hK1 _ _ ?_)); refine W_seq fun K2 hK2 => ?_; refine W_seq fun K3 hK3 => ?_; refine W_region ?_; refine xm rfl rfl ?_; refine xp (n_eq rfl rfl rfl) rfl ?_; refine WO_nil (sq_n (hK3 _ _ ?_)); refine W_cond rfl (fun hc0 => ?_) (fun hc0 => ?_)
  · replace hc0 := of_decide_eq_true hc0; refine W_seq fun K4 hK4 => ?_; refine W_region ?_; refine xa rfl rfl ?_; refine xa rfl rfl ?_; refine xa rfl rfl ?_; refine WO_nil (sq_n (hK4 _ _ ?_)); refine W_ret (sq_r (ret_of (v := _) rfl ?_)); unfold lsym lmore lext; rw [if_pos hc0, if_pos hc0, if_pos hc0]; exact ⟨rfl, rfl⟩
  · replace hc0 := of_decide_eq_false hc0; have e1 : lsym v = symD lenBase v 257 27 := by unfold lsym; rw [if_neg hc0]
    have e2 : lmore v = v - lenBase (lsym v) := by unfold lmore; rw [if_neg hc0]
    have e3 : lext v = lenExtra (lsym v) := by unfold lext; rw [if_neg hc0]
    refine W_skip (sq_n (hK2 _ _ ?_)); refine W_seq fun K5 hK5 => ?_; refine W_region ?_; refine xa rfl rfl ?_; refine WO_nil (sq_n (hK5 _ _ ?_)); refine W_block ?_; refine W_loop (fun m E H => ∃ k, k ≤ 27 ∧ m = k ∧ symD lenBase v 257 k = symD lenBase v 257 27 ∧ Sub E [(0, iV v), (2, iV (257 + k))] ∧ H = []) (m := _) (⟨27, Nat.le_refl _, rfl, rfl, ⟨rfl, rfl, trivial⟩, rfl⟩) ?_; rintro m E H ⟨k, hk, hmk, hs, hE, rfl⟩
    refine W.env hE ?_; have hlb := len_table (257 + k) (by omega) (by omega); refine W_block ?_; refine W_seq fun K6 hK6 => ?_; refine W_region ?_; refine xm rfl rfl ?_; refine wc (e_c rfl rfl rfl call41) rfl rfl rfl (lengthOf_spec (257 + k) (by omega) (by omega)) .nil ?_; rintro _ _ ⟨rfl, rfl⟩; (try simp only [ap4]); refine xm rfl rfl ?_; refine xp (v_ex rfl rfl rfl) rfl ?_; refine xp (v_ex rfl rfl rfl) rfl ?_
    refine xa rfl rfl ?_; refine xa rfl rfl ?_; refine WO_nil (sq_n (hK6 _ _ ?_)); refine W_seq fun K7 hK7 => ?_; refine W_seq fun K8 hK8 => ?_; refine W_region ?_; refine xm rfl rfl ?_; refine xm rfl rfl ?_; refine xp (n_ge rfl rfl rfl) rfl ?_; refine WO_nil (sq_n (hK8 _ _ ?_)); refine W_cond rfl (fun hc1 => ?_) (fun hc1 => ?_)
    · replace hc1 := of_decide_eq_true hc1
      have e4 : symD lenBase v 257 27 = 257 + k := by
        rw [← hs]
        cases k with
        | zero => rfl
        | succ k => rw [symD, if_pos hc1]
      refine W_seq fun K9 hK9 => ?_; refine W_region ?_; refine xm rfl rfl ?_; refine xm rfl rfl ?_; refine xm rfl rfl ?_; refine xp (n_sub rfl rfl rfl kI (by omega) (by omega)) rfl ?_; refine xm rfl rfl ?_; refine xa rfl rfl ?_; refine xa rfl rfl ?_; refine xa rfl rfl ?_; refine WO_nil (sq_n (hK9 _ _ ?_)); refine W_ret (sq_r (bl_r (sq_r (bl_r (ret_of (v := _) rfl ?_))))); rw [e2, e3, e1, e4]; exact ⟨rfl, rfl⟩
    · replace hc1 := of_decide_eq_false hc1; refine W_skip (sq_n (hK7 _ _ ?_)); refine W_region ?_; refine xm rfl rfl ?_; refine xp (n_sub rfl rfl rfl kI (by omega) (by omega)) rfl ?_; refine xa rfl rfl ?_; refine WO_nil (bl_n (sq_n (?_))); obtain ⟨k, rfl⟩ : ∃ j, k = j + 1 := ⟨k - 1, (Nat.succ_pred_eq_of_pos (Nat.pos_of_ne_zero fun h0 => by subst h0; exact hc1 h)).symm⟩
      refine ⟨k, by omega, k, by omega, rfl, ?_, ⟨rfl, rfl, trivial⟩, rfl⟩; rw [symD, if_neg hc1] at hs; exact hs
theorem distanceSymbol_spec {v : Nat} (h : 1 ≤ v) (h2 : v ≤ 32768) : CallsL Tryz.prog 47 #[iV v] [] fun r H' => r = .tuple #[iV (dsym v), iV (v - distBase (dsym v)), iV (distExtra (dsym v))] ∧ H' = [] := by
  have e1 : dsym v = symD distBase v 0 29 := rfl; rw [e1]; refine CallsL_of func47 rfl ntmps47 rfl ?_; try dsimp only [initE, Nat.zero_add]
  refine W_seq fun K1 hK1 => ?_; refine W_region ?_; refine xa rfl rfl ?_; refine xa rfl rfl ?_; refine xa rfl rfl ?_; refine WO_nil (sq_n (hK1 _ _ ?_)); refine W_seq fun K2 hK2 => ?_; refine W_region ?_; refine xa rfl rfl ?_; refine WO_nil (sq_n (hK2 _ _ ?_)); refine W_block ?_
  refine W_loop (fun m E H => ∃ k, k ≤ 29 ∧ m = k ∧ symD distBase v 0 k = symD distBase v 0 29 ∧ Sub E [(0, iV v), (2, iV k)] ∧ H = []) (m := _) (⟨29, Nat.le_refl _, rfl, rfl, ⟨rfl, rfl, trivial⟩, rfl⟩) ?_; rintro m E H ⟨k, hk, hmk, hs, hE, rfl⟩; refine W.env hE ?_; have hlb := dist_table k (by omega); refine W_block ?_; refine W_seq fun K3 hK3 => ?_; refine W_region ?_; refine xm rfl rfl ?_
  refine wc (e_c rfl rfl rfl call42) rfl rfl rfl (distanceOf_spec k (by omega)) .nil ?_; rintro _ _ ⟨rfl, rfl⟩; (try simp only [ap4]); refine xm rfl rfl ?_; refine xp (v_ex rfl rfl rfl) rfl ?_; refine xp (v_ex rfl rfl rfl) rfl ?_; refine xa rfl rfl ?_; refine xa rfl rfl ?_; refine WO_nil (sq_n (hK3 _ _ ?_)); refine W_seq fun K4 hK4 => ?_; refine W_seq fun K5 hK5 => ?_; refine W_region ?_; refine xm rfl rfl ?_
  refine xm rfl rfl ?_; refine xp (n_ge rfl rfl rfl) rfl ?_; refine WO_nil (sq_n (hK5 _ _ ?_)); refine W_cond rfl (fun hc0 => ?_) (fun hc0 => ?_)
  · replace hc0 := of_decide_eq_true hc0
    have e4 : symD distBase v 0 29 = k := by
      rw [← hs]
      cases k with
      | zero => rfl
      | succ k => rw [symD, if_pos (by rw [Nat.zero_add]; exact hc0), Nat.zero_add]
    refine W_seq fun K6 hK6 => ?_; refine W_region ?_; refine xm rfl rfl ?_; refine xm rfl rfl ?_; refine xm rfl rfl ?_; refine xp (n_sub rfl rfl rfl kI (by omega) (by omega)) rfl ?_; refine xm rfl rfl ?_; refine xa rfl rfl ?_; refine xa rfl rfl ?_; refine xa rfl rfl ?_; refine WO_nil (sq_n (hK6 _ _ ?_)); refine W_ret (sq_r (bl_r (sq_r (bl_r (ret_of (v := _) rfl ?_))))); rw [e4]; exact ⟨rfl, rfl⟩
  · replace hc0 := of_decide_eq_false hc0; have hk0 : 0 < k := Nat.pos_of_ne_zero fun h0 => by subst h0; exact hc0 h
    refine W_skip (sq_n (hK4 _ _ ?_)); refine W_region ?_; refine xm rfl rfl ?_; refine xp (n_sub rfl rfl rfl kI (by omega) (by omega)) rfl ?_; refine xa rfl rfl ?_; refine WO_nil (bl_n (sq_n (?_))); obtain ⟨k, rfl⟩ : ∃ j, k = j + 1 := ⟨k - 1, by omega⟩; refine ⟨k, by omega, k, by omega, rfl, ?_, ⟨rfl, rfl, trivial⟩, rfl⟩; rw [symD, if_neg (by rw [Nat.zero_add]; exact hc0)] at hs; exact hs
end Go.Proofs.YtpbahgddoamhgaaGreatDoor
namespace Go.Proofs.YtpbahgddoamhgaaGreatDoor
open Go.Proofs.Tryz
open Go Sx Pu
set_option maxRecDepth 10000

section
variable {D : Hl} {cb at_ from_ cap capl : Nat} {p pl : Option Addr} {V : List Int} {A : List Nat}
set_option maxHeartbeats 4000000 in
theorem tokens_spec (hd : Dat p A D) (hA : ∀ c ∈ A, c < 256) (hl : A.length < 2 ^ 40) (hz : DatZ pl V D) (hV : ZW V) (hvl : V.length < 2 ^ 62) (ha : at_ < 2 ^ 60) (hf : from_ ≤ A.length) :
    CallsL Tryz.prog 33 #[.slice p A.length cap, iV from_, .pointer (some ⟨cb, 0, none⟩)] ((cb, chO pl V.length capl at_) :: D) fun v H' => ∃ p2 c2 Hs, v = .slice p2 (toks A V A.length from_ at_).1.length c2 ∧ OwnT 101 p2 c2 (toks A V A.length from_ at_).1 Hs ∧
      H' = Hs ++ ((cb, chO pl V.length capl (toks A V A.length from_ at_).2) :: D) := by
  obtain ⟨T, a1, hT, hT2⟩ : ∃ T a1, (toks A V A.length from_ at_).1 = T ∧ (toks A V A.length from_ at_).2 = a1 := ⟨_, _, rfl, rfl⟩; rw [hT, hT2]; refine CallsL_of func33 rfl ntmps33 rfl ?_; try dsimp only [initE, Nat.zero_add]
  refine W_seq fun K1 hK1 => ?_; refine W_region ?_; refine xa rfl rfl ?_; refine WO_nil (sq_n (hK1 _ _ ?_)); refine W_seq fun K2 hK2 => ?_; refine W_region ?_; refine xa rfl rfl ?_; refine WO_nil (sq_n (hK2 _ _ ?_)); refine W_seq fun K3 hK3 => ?_; refine W_seq fun K4 hK4 => ?_; refine W_region ?_; refine xm rfl rfl ?_; refine xa rfl rfl ?_; refine WO_nil (sq_n (hK4 _ _ ?_)); refine W_block ?_
  refine W_loop (fun m E H => ∃ i a out k p2 c2 Hs, i ≤ A.length ∧ m = A.length - i ∧ A.length ≤ k + i ∧ a ≤ at_ + 4 * i ∧ out.length ≤ i ∧ out ++ (toks A V k i a).1 = T ∧ (toks A V k i a).2 = a1 ∧ OwnT 101 p2 c2 out Hs ∧ Sub E [(0, .slice p A.length cap), (2, .pointer (some ⟨cb, 0, none⟩)), (7, .slice p2 out.length c2), (8, iV i)] ∧ H = Hs ++ ((cb, chO pl V.length capl a) :: D)) (m := _) (⟨from_, at_, [], A.length, none, 0, [], hf, rfl, by omega, by omega, by simp, hT, hT2, OwnT.nil, ⟨rfl, rfl, rfl, rfl, trivial⟩, rfl⟩) ?_
  clear hT hT2 hf; rintro m E H ⟨i, a, out, k, p2, c2, Hs, hi, rfl, hk, haa, hol, hT, hT2, hO, hE, rfl⟩; refine W.env hE ?_; refine W_seq fun K5 hK5 => ?_; refine W_seq fun K6 hK6 => ?_; refine W_region ?_; refine xm rfl rfl ?_; refine xm rfl rfl ?_; refine xp (v_len rfl underlying22 rfl) rfl ?_; refine xp (n_lt rfl rfl rfl) rfl ?_; refine WO_nil (sq_n (hK6 _ _ ?_)); refine W_cond rfl (fun hc0 => ?_) (fun hc0 => ?_)
  · replace hc0 := of_decide_eq_true hc0; obtain ⟨k, rfl⟩ : ∃ j, k = j + 1 := ⟨k - 1, by omega⟩; rw [toks, if_pos hc0] at hT hT2; dsimp only at hT hT2; have hd0 := hd; obtain ⟨b2, off, c, ty, fz, r, rfl, hat, hcc⟩ := hd (by intro e; subst e; simp at hc0); have hga : ∀ j, j < A.length → c[off + j]? = some (bV (A.getD j 0)) := fun j hj => by rw [hcc j hj, getD_in hj]
    have hg2 := fun j => getD_256 hA j; have hgi := hg2 i; refine W_skip (sq_n (hK5 _ _ ?_)); refine W_block ?_; refine W_seq fun K7 hK7 => ?_; refine W_region ?_; refine xa rfl rfl ?_; refine xa rfl rfl ?_; refine WO_nil (sq_n (hK7 _ _ ?_))
    refine W_seq_mid (fun E H => ∃ far l a2, ((0 < i ∧ 0 < nxt V a 3 ∧ far = tfar V a i ∧ l = mlen A i far ∧ a2 = a + 3) ∨ (¬ (0 < i ∧ 0 < nxt V a 3) ∧ l = 0 ∧ a2 = if 0 < i then a + 1 else a)) ∧ i + l ≤ A.length ∧ l ≤ 258 ∧ a2 ≤ a + 3 ∧ Sub E [(0, .slice (some ⟨b2, off, none⟩) A.length cap), (2, .pointer (some ⟨cb, 0, none⟩)), (7, .slice p2 out.length c2), (8, iV i), (9, iV far), (10, iV l)] ∧ H = Hs ++ ((cb, chO pl V.length capl a2) :: D)) ?_ ?_
    · skip
      refine W_seq fun K9 hK9 => ?_; by_cases hi0 : 0 < i
      · skip
        refine W_region ?_; refine xm rfl rfl ?_; refine xp (v_gt rfl rfl rfl (dT (by omega))) rfl ?_; refine xm rfl rfl ?_; refine xm rfl rfl ?_; refine wc (e_c rfl rfl rfl call30) rfl rfl rfl (next_spec hz hV (by decide) (by decide) (by omega) hvl) .behind ?_; rintro _ _ ⟨rfl, rfl⟩; (try simp only [ap4]); refine xp (n_gt rfl rfl rfl) rfl ?_; refine xp (v_pt rfl rfl rfl) rfl ?_; refine WO_nil (sq_n (hK9 _ _ ?_))
        refine W_cond rfl (fun hc1 => ?_) (fun hc1 => ?_)
        · replace hc1 := of_decide_eq_true hc1; have htf := tfar_bd V a hi0; have hn1 := nxt_lt V (a + 1) (most := min i 32768) (by omega); refine W_seq fun K10 hK10 => ?_; refine W_region ?_; refine xm rfl rfl ?_; refine xm rfl rfl ?_; refine xp (n_min rfl rfl rfl) rfl ?_; refine wc (e_c rfl rfl rfl call30) rfl rfl rfl (next_spec hz hV (by omega) (by omega) (by omega) hvl) .behind ?_; rintro _ _ ⟨rfl, rfl⟩
          (try simp only [ap4]); refine xp (n_add rfl rfl rfl kI (by omega)) rfl ?_; refine xa rfl rfl ?_; refine WO_nil (sq_n (hK10 _ _ ?_)); refine W_seq_mid (fun E H => Sub E [(0, .slice (some ⟨b2, off, none⟩) A.length cap), (2, .pointer (some ⟨cb, 0, none⟩)), (7, .slice p2 out.length c2), (8, iV i), (9, iV (tfar V a i)), (10, iV 0)] ∧ H = Hs ++ ((cb, chO pl V.length capl (a + 3)) :: D)) ?_ ?_
          · skip
            refine W_seq fun K12 hK12 => ?_; refine W_region ?_; refine xm rfl rfl ?_; refine wc (e_c rfl rfl rfl call30) rfl rfl rfl (next_spec hz hV (by decide) (by decide) (by omega) hvl) .behind ?_; rintro _ _ ⟨rfl, rfl⟩; (try simp only [ap4]); refine xp (n_eq rfl rfl rfl) rfl ?_; refine WO_nil (sq_n (hK12 _ _ ?_)); refine W_cond rfl (fun hc2 => ?_) (fun hc2 => ?_)
            · replace hc2 := of_decide_eq_true hc2; refine W_region ?_; refine xm rfl rfl ?_; refine xp (n_sub rfl rfl rfl kI (by omega) (by omega)) rfl ?_; refine xm rfl rfl ?_; refine xp (n_min rfl rfl rfl) rfl ?_; refine xp (n_rem rfl rfl rfl (by omega)) rfl ?_; refine xp (n_add rfl rfl rfl kI (by have := Nat.mod_lt (1 + nxt V (a + 1) (min i 32768) - 1) (show 0 < min i 8 by omega); omega)) rfl ?_
              refine xa rfl rfl ?_; refine WO_nil (sq_n (?_)); unfold tfar; first
              | (have hq : nxt V (a + 2) 2 = 0 := hc2; rw [if_pos hq]; exact ⟨⟨rfl, rfl, rfl, rfl, (by rw [Nat.add_sub_cancel_left]; rfl), rfl, trivial⟩, rfl⟩)
              | (have hq : ¬ nxt V (a + 2) 2 = 0 := hc2; rw [if_neg hq]; exact ⟨⟨rfl, rfl, rfl, rfl, rfl, rfl, trivial⟩, rfl⟩)
            · replace hc2 := of_decide_eq_false hc2; refine W_skip (sq_n (?_)); unfold tfar; first
              | (have hq : nxt V (a + 2) 2 = 0 := hc2; rw [if_pos hq]; exact ⟨⟨rfl, rfl, rfl, rfl, (by rw [Nat.add_sub_cancel_left]; rfl), rfl, trivial⟩, rfl⟩)
              | (have hq : ¬ nxt V (a + 2) 2 = 0 := hc2; rw [if_neg hq]; exact ⟨⟨rfl, rfl, rfl, rfl, rfl, rfl, trivial⟩, rfl⟩)
          · rintro E H ⟨hE, rfl⟩; refine W.env hE ?_; obtain ⟨far, hfar⟩ : ∃ far, tfar V a i = far := ⟨_, rfl⟩; rw [hfar] at htf ⊢; refine W_block ?_
            refine W_loop (fun m E H => ∃ l, l ≤ 258 ∧ i + l ≤ A.length ∧ m = 258 - l ∧ mrun A i far (258 - l) l = mlen A i far ∧ Sub E [(0, .slice (some ⟨b2, off, none⟩) A.length cap), (2, .pointer (some ⟨cb, 0, none⟩)), (7, .slice p2 out.length c2), (8, iV i), (9, iV far), (10, iV l)] ∧ H = Hs ++ ((cb, chO pl V.length capl (a + 3)) :: D)) (m := _) (⟨0, by omega, by omega, rfl, rfl, ⟨rfl, rfl, rfl, rfl, rfl, rfl, trivial⟩, rfl⟩) ?_
            rintro m E H ⟨l, hl258, hil, rfl, hml, hE, rfl⟩; refine W.env hE ?_; refine W_seq fun K13 hK13 => ?_; refine W_seq fun K14 hK14 => ?_; by_cases hl1 : l < 258
            · skip
              by_cases hl2 : i + l < A.length
              · have hgl := hg2 (i + l); have hgf := hg2 (i + l - far); by_cases hl3 : A.getD (i + l) 0 = A.getD (i + l - far) 0
                · skip
                  refine W_draw mixed ?_; refine WA_k (fuel := 0) [0,1,2,3,4,5,6,7,8,9,10,11,12,13,14,15,16,17,18,19,20,21,22,23,24,25,26] rfl (by kernel_rfl) ?_; refine ym rfl rfl rfl ?_; refine yp rfl (v_lt rfl rfl rfl (dT (by omega))) rfl ?_; refine ym rfl rfl rfl ?_; refine ym rfl rfl rfl ?_; refine ym rfl rfl rfl ?_; refine yp rfl (n_add rfl rfl rfl kI (by omega)) rfl ?_; refine ym rfl rfl rfl ?_
                  refine yp rfl (v_len rfl underlying22 rfl) rfl ?_; refine yp rfl (v_lt rfl rfl rfl (dT (by omega))) rfl ?_; refine yp rfl (v_pt rfl rfl rfl) rfl ?_; refine ym rfl rfl rfl ?_; refine ym rfl rfl rfl ?_; refine ym rfl rfl rfl ?_; refine ym rfl rfl rfl ?_; refine yp rfl (n_add rfl rfl rfl kI (by omega)) rfl ?_; refine yp rfl (v_ixs rfl underlying22 sizeOf5 rfl rfl (by omega)) rfl ?_
                  refine yv rfl (v_ld rfl rfl isAgg5 (hga _ (by omega))) rfl ?_; refine ym rfl rfl rfl ?_; refine ym rfl rfl rfl ?_; refine ym rfl rfl rfl ?_; refine yp rfl (n_add rfl rfl rfl kI (by omega)) rfl ?_; refine ym rfl rfl rfl ?_; refine yp rfl (n_sub rfl rfl rfl kI (by omega) (by omega)) rfl ?_; refine yp rfl (v_ixs rfl underlying22 sizeOf5 rfl rfl (by omega)) rfl ?_
                  refine yv rfl (v_ld rfl rfl isAgg5 (hga _ (by omega))) rfl ?_; refine yp rfl (v_eq rfl rfl rfl (dT (by rw [hl3]))) rfl ?_; refine yp rfl (v_pt rfl rfl rfl) rfl ?_; refine WK_nil ?_; refine WA_nil (by kernel_rfl) (sq_n (hK14 _ _ ?_)); refine W_cond_t rfl ?_; refine W_skip (sq_n (hK13 _ _ ?_)); refine W_block ?_; refine W_region ?_; refine xm rfl rfl ?_
                  refine xp (n_add rfl rfl rfl kI (by omega)) rfl ?_; refine xa rfl rfl ?_; refine WO_nil (bl_n (sq_n (?_))); refine ⟨258 - (l + 1), by omega, l + 1, by omega, by omega, rfl, ?_, ⟨rfl, rfl, rfl, rfl, rfl, rfl, trivial⟩, rfl⟩; rw [show 258 - l = (258 - (l + 1)) + 1 by omega, mrun, if_pos ⟨hl2, hl3⟩] at hml; exact hml
                · have hml2 : mlen A i far = l := by rw [← hml, show 258 - l = (257 - l) + 1 by omega, mrun, if_neg (fun h => hl3 h.2)]
                  refine W_draw mixed ?_; refine WA_k (fuel := 0) [0,1,2,3,4,5,6,7,8,9,10,11,12,13,14,15,16,17,18,19,20,21,22,23,24,25,26] rfl (by kernel_rfl) ?_; refine ym rfl rfl rfl ?_; refine yp rfl (v_lt rfl rfl rfl (dT (by omega))) rfl ?_; refine ym rfl rfl rfl ?_; refine ym rfl rfl rfl ?_; refine ym rfl rfl rfl ?_; refine yp rfl (n_add rfl rfl rfl kI (by omega)) rfl ?_; refine ym rfl rfl rfl ?_
                  refine yp rfl (v_len rfl underlying22 rfl) rfl ?_; refine yp rfl (v_lt rfl rfl rfl (dT (by omega))) rfl ?_; refine yp rfl (v_pt rfl rfl rfl) rfl ?_; refine ym rfl rfl rfl ?_; refine ym rfl rfl rfl ?_; refine ym rfl rfl rfl ?_; refine ym rfl rfl rfl ?_; refine yp rfl (n_add rfl rfl rfl kI (by omega)) rfl ?_; refine yp rfl (v_ixs rfl underlying22 sizeOf5 rfl rfl (by omega)) rfl ?_
                  refine yv rfl (v_ld rfl rfl isAgg5 (hga _ (by omega))) rfl ?_; refine ym rfl rfl rfl ?_; refine ym rfl rfl rfl ?_; refine ym rfl rfl rfl ?_; refine yp rfl (n_add rfl rfl rfl kI (by omega)) rfl ?_; refine ym rfl rfl rfl ?_; refine yp rfl (n_sub rfl rfl rfl kI (by omega) (by omega)) rfl ?_; refine yp rfl (v_ixs rfl underlying22 sizeOf5 rfl rfl (by omega)) rfl ?_
                  refine yv rfl (v_ld rfl rfl isAgg5 (hga _ (by omega))) rfl ?_; refine yp rfl (v_eq rfl rfl rfl (dF (fun e => hl3 (by exact_mod_cast e)))) rfl ?_; refine yp rfl (v_pt rfl rfl rfl) rfl ?_; refine WK_nil ?_; refine WA_nil (by kernel_rfl) (sq_n (hK14 _ _ ?_)); refine W_cond_f rfl ?_; refine W_exit (sq_x (sq_x (bl_x (sq_n (?_))))); first
                  | (have hq := hml2; exact ⟨far, l, a + 3, .inl ⟨hi0, hc1, rfl, hml2.symm, rfl⟩, hil, hl258, Nat.le_refl _, ⟨rfl, rfl, rfl, rfl, rfl, rfl, trivial⟩, rfl⟩)
                  | (have hq : ¬ 0 < nxt V a 3 := hc1; exact ⟨0, 0, a + 1, .inr ⟨fun h => hq h.2, rfl, (if_pos hi0).symm⟩, by omega, by omega, by omega, ⟨rfl, rfl, rfl, rfl, rfl, rfl, trivial⟩, rfl⟩)
                  | exact ⟨0, 0, a, .inr ⟨fun h => hi0 h.1, rfl, (if_neg hi0).symm⟩, by omega, by omega, by omega, ⟨rfl, rfl, rfl, rfl, rfl, rfl, trivial⟩, rfl⟩
              · have hml2 : mlen A i far = l := by rw [← hml, show 258 - l = (257 - l) + 1 by omega, mrun, if_neg (fun h => hl2 h.1)]
                refine W_draw mixed ?_; refine WA_k (fuel := 0) [0,1,2,3,4,5,6,7,8,9,10,11,12,13,14,15,16,17,18,19,20,21,22,23,24,25,26] rfl (by kernel_rfl) ?_; refine ym rfl rfl rfl ?_; refine yp rfl (v_lt rfl rfl rfl (dT (by omega))) rfl ?_; refine ym rfl rfl rfl ?_; refine ym rfl rfl rfl ?_; refine ym rfl rfl rfl ?_; refine yp rfl (n_add rfl rfl rfl kI (by omega)) rfl ?_; refine ym rfl rfl rfl ?_
                refine yp rfl (v_len rfl underlying22 rfl) rfl ?_; refine yp rfl (v_lt rfl rfl rfl (dF (by omega))) rfl ?_; refine yp rfl (v_pt rfl rfl rfl) rfl ?_; refine ym rfl rfl rfl ?_; refine yno rfl rfl ?_; refine yno rfl rfl ?_; refine yno rfl rfl ?_; refine yno rfl rfl ?_; refine yno rfl rfl ?_; refine yno rfl rfl ?_; refine yno rfl rfl ?_; refine yno rfl rfl ?_; refine yno rfl rfl ?_; refine yno rfl rfl ?_
                refine yno rfl rfl ?_; refine yno rfl rfl ?_; refine yno rfl rfl ?_; refine yno rfl rfl ?_; refine yno rfl rfl ?_; refine yp rfl (v_pf rfl rfl rfl) rfl ?_; refine WK_nil ?_; refine WA_nil (by kernel_rfl) (sq_n (hK14 _ _ ?_)); refine W_cond_f rfl ?_; refine W_exit (sq_x (sq_x (bl_x (sq_n (?_))))); first
                | (have hq := hml2; exact ⟨far, l, a + 3, .inl ⟨hi0, hc1, rfl, hml2.symm, rfl⟩, hil, hl258, Nat.le_refl _, ⟨rfl, rfl, rfl, rfl, rfl, rfl, trivial⟩, rfl⟩)
                | (have hq : ¬ 0 < nxt V a 3 := hc1; exact ⟨0, 0, a + 1, .inr ⟨fun h => hq h.2, rfl, (if_pos hi0).symm⟩, by omega, by omega, by omega, ⟨rfl, rfl, rfl, rfl, rfl, rfl, trivial⟩, rfl⟩)
                | exact ⟨0, 0, a, .inr ⟨fun h => hi0 h.1, rfl, (if_neg hi0).symm⟩, by omega, by omega, by omega, ⟨rfl, rfl, rfl, rfl, rfl, rfl, trivial⟩, rfl⟩
            · have hml2 : mlen A i far = l := by rw [← hml, show 258 - l = 0 by omega]; rfl
              refine W_draw mixed ?_; refine WA_k (fuel := 0) [0,1,2,3,4,5,6,7,8,9,10,11,12,13,14,15,16,17,18,19,20,21,22,23,24,25,26] rfl (by kernel_rfl) ?_; refine ym rfl rfl rfl ?_; refine yp rfl (v_lt rfl rfl rfl (dF (by omega))) rfl ?_; refine ym rfl rfl rfl ?_; refine yno rfl rfl ?_; refine yno rfl rfl ?_; refine yno rfl rfl ?_; refine yno rfl rfl ?_; refine yno rfl rfl ?_; refine yno rfl rfl ?_
              refine yp rfl (v_pf rfl rfl rfl) rfl ?_; refine ym rfl rfl rfl ?_; refine yno rfl rfl ?_; refine yno rfl rfl ?_; refine yno rfl rfl ?_; refine yno rfl rfl ?_; refine yno rfl rfl ?_; refine yno rfl rfl ?_; refine yno rfl rfl ?_; refine yno rfl rfl ?_; refine yno rfl rfl ?_; refine yno rfl rfl ?_; refine yno rfl rfl ?_; refine yno rfl rfl ?_; refine yno rfl rfl ?_; refine yno rfl rfl ?_
              refine yno rfl rfl ?_; refine yp rfl (v_pf rfl rfl rfl) rfl ?_; refine WK_nil ?_; refine WA_nil (by kernel_rfl) (sq_n (hK14 _ _ ?_)); refine W_cond_f rfl ?_; refine W_exit (sq_x (sq_x (bl_x (sq_n (?_))))); first
              | (have hq := hml2; exact ⟨far, l, a + 3, .inl ⟨hi0, hc1, rfl, hml2.symm, rfl⟩, hil, hl258, Nat.le_refl _, ⟨rfl, rfl, rfl, rfl, rfl, rfl, trivial⟩, rfl⟩)
              | (have hq : ¬ 0 < nxt V a 3 := hc1; exact ⟨0, 0, a + 1, .inr ⟨fun h => hq h.2, rfl, (if_pos hi0).symm⟩, by omega, by omega, by omega, ⟨rfl, rfl, rfl, rfl, rfl, rfl, trivial⟩, rfl⟩)
              | exact ⟨0, 0, a, .inr ⟨fun h => hi0 h.1, rfl, (if_neg hi0).symm⟩, by omega, by omega, by omega, ⟨rfl, rfl, rfl, rfl, rfl, rfl, trivial⟩, rfl⟩
        · replace hc1 := of_decide_eq_false hc1; refine W_skip (sq_n (?_)); first
          | (have hq := hml2; exact ⟨far, l, a + 3, .inl ⟨hi0, hc1, rfl, hml2.symm, rfl⟩, hil, hl258, Nat.le_refl _, ⟨rfl, rfl, rfl, rfl, rfl, rfl, trivial⟩, rfl⟩)
          | (have hq : ¬ 0 < nxt V a 3 := hc1; exact ⟨0, 0, a + 1, .inr ⟨fun h => hq h.2, rfl, (if_pos hi0).symm⟩, by omega, by omega, by omega, ⟨rfl, rfl, rfl, rfl, rfl, rfl, trivial⟩, rfl⟩)
          | exact ⟨0, 0, a, .inr ⟨fun h => hi0 h.1, rfl, (if_neg hi0).symm⟩, by omega, by omega, by omega, ⟨rfl, rfl, rfl, rfl, rfl, rfl, trivial⟩, rfl⟩
      · skip
        refine W_region ?_; refine xm rfl rfl ?_; refine xp (v_gt rfl rfl rfl (dF (by omega))) rfl ?_; refine xm rfl rfl ?_; refine xno rfl ?_; refine xno rfl ?_; refine xno rfl ?_; refine xp (v_pf rfl rfl rfl) rfl ?_; refine WO_nil (sq_n (hK9 _ _ ?_)); refine W_cond_f rfl ?_; refine W_skip (sq_n (?_)); first
        | (have hq := hml2; exact ⟨far, l, a + 3, .inl ⟨hi0, hc1, rfl, hml2.symm, rfl⟩, hil, hl258, Nat.le_refl _, ⟨rfl, rfl, rfl, rfl, rfl, rfl, trivial⟩, rfl⟩)
        | (have hq : ¬ 0 < nxt V a 3 := hc1; exact ⟨0, 0, a + 1, .inr ⟨fun h => hq h.2, rfl, (if_pos hi0).symm⟩, by omega, by omega, by omega, ⟨rfl, rfl, rfl, rfl, rfl, rfl, trivial⟩, rfl⟩)
        | exact ⟨0, 0, a, .inr ⟨fun h => hi0 h.1, rfl, (if_neg hi0).symm⟩, by omega, by omega, by omega, ⟨rfl, rfl, rfl, rfl, rfl, rfl, trivial⟩, rfl⟩
    · rintro E H ⟨far, l, a2, hcase, hil, hl258, ha2, hE, rfl⟩; refine W.env hE ?_; refine W_seq fun K15 hK15 => ?_; refine W_seq fun K16 hK16 => ?_; refine W_region ?_; refine xm rfl rfl ?_; refine xp (n_lt rfl rfl rfl) rfl ?_; refine WO_nil (sq_n (hK16 _ _ ?_)); refine W_cond rfl (fun hc4 => ?_) (fun hc4 => ?_)
      · replace hc4 := of_decide_eq_true hc4
        have hts : tstep A V i a = ((A.getD i 0, 0, 0), i + 1, a2) := by
          unfold tstep; rcases hcase with ⟨h1, h2, rfl, h4, rfl⟩ | ⟨h1, h2, rfl⟩
          · rw [if_pos ⟨h1, h2⟩, if_pos (by omega)]
          · rw [if_neg h1]
        refine W_seq fun K17 hK17 => ?_; refine W_region ?_; refine xm rfl rfl ?_; refine xm rfl rfl ?_; refine xm rfl rfl ?_; refine xp (v_ixs rfl underlying22 sizeOf5 rfl rfl (by omega)) rfl ?_; refine xv (v_ld rfl rfl isAgg5 (hga i hc0)) rfl ?_; refine xp (n_cv rfl underlying5 underlying3 rfl kI (by omega)) rfl ?_
        refine xp (v_any (.agg (List.toArray [iV (A.getD i 0), iV 0, iV 0])) rfl rfl (by intro w; kernel_rfl)) rfl ?_; refine wappT (bytes := 24) (a := A.getD i 0) (b := 0) (c := 0) underlying72 sizeOf101 typeInfo101 rfl zeroValue101 rfl hO rfl (by omega) (by omega) (v_bs (List.toArray [iV (A.getD i 0), iV 0, iV 0]) 101 1 rfl rfl (by intro w; kernel_rfl)) rfl rfl rfl rfl rfl rfl (fun _ => rfl) (fun _ => rfl) ?_
        intro vb p3 c3 Hs3 hO3; refine xa rfl rfl ?_; refine WO_nil (sq_n (hK17 _ _ ?_)); refine W_seq fun K18 hK18 => ?_; refine W_region ?_; refine xm rfl rfl ?_; refine xp (n_add rfl rfl rfl kI (by omega)) rfl ?_; refine xa rfl rfl ?_; refine WO_nil (sq_n (hK18 _ _ ?_)); refine W_exit (sq_x (bl_x (sq_n (?_)))); obtain ⟨g1, g2, g3, g4, g5⟩ := tstep_ok hA V i a hc0; rw [hts] at hT hT2 g2 g3 g5
        dsimp only at hT hT2 g2 g3 g5; refine ⟨A.length - _, ?_, _, _, _, k, p3, c3, Hs3, g3, rfl, by omega, by omega, by rw [List.length_append, List.length_singleton]; omega, by rw [List.append_assoc]; exact hT, hT2, hO3, ⟨rfl, rfl, rfl, rfl, trivial⟩, rfl⟩; omega
      · replace hc4 := of_decide_eq_false hc4; have hnl := nxt_lt V a2 (most := l - 2) (by omega); refine W_skip (sq_n (hK15 _ _ ?_)); refine W_seq fun K19 hK19 => ?_; refine W_region ?_; refine xm rfl rfl ?_; refine xm rfl rfl ?_; refine xp (n_sub rfl rfl rfl kI (by omega) (by omega)) rfl ?_; refine wc (e_c rfl rfl rfl call30) rfl rfl rfl (next_spec hz hV (by omega) (by omega) (by omega) hvl) .behind ?_
        rintro _ _ ⟨rfl, rfl⟩; (try simp only [ap4]); refine xp (n_add rfl rfl rfl kI (by omega)) rfl ?_; refine xa rfl rfl ?_; refine WO_nil (sq_n (hK19 _ _ ?_)); refine W_seq fun K20 hK20 => ?_
        have hts : tstep A V i a = ((0, far, 3 + nxt V a2 (l - 2)), i + (3 + nxt V a2 (l - 2)), a2 + 1) := by
          unfold tstep; rcases hcase with ⟨h1, h2, rfl, h4, rfl⟩ | ⟨h1, h2, _⟩
          · rw [if_pos ⟨h1, h2⟩, if_neg (by omega), ← h4]
          · omega
        refine W_region ?_; refine xm rfl rfl ?_; refine xm rfl rfl ?_; refine xm rfl rfl ?_; refine xp (v_any (.agg (List.toArray [iV 0, iV far, iV (3 + nxt V a2 (l - 2))])) rfl rfl (by intro w; kernel_rfl)) rfl ?_
        refine wappT (bytes := 24) (a := 0) (b := far) (c := 3 + nxt V a2 (l - 2)) underlying72 sizeOf101 typeInfo101 rfl zeroValue101 rfl hO rfl (by omega) (by omega) (v_bs (List.toArray [iV 0, iV far, iV (3 + nxt V a2 (l - 2))]) 101 1 rfl rfl (by intro w; kernel_rfl)) rfl rfl rfl rfl rfl rfl (fun _ => rfl) (fun _ => rfl) ?_; intro vb p3 c3 Hs3 hO3; refine xa rfl rfl ?_; refine WO_nil (sq_n (hK20 _ _ ?_))
        refine W_region ?_; refine xm rfl rfl ?_; refine xm rfl rfl ?_; refine xp (n_add rfl rfl rfl kI (by omega)) rfl ?_; refine xa rfl rfl ?_; refine WO_nil (bl_n (sq_n (?_))); obtain ⟨g1, g2, g3, g4, g5⟩ := tstep_ok hA V i a hc0; rw [hts] at hT hT2 g2 g3 g5; dsimp only at hT hT2 g2 g3 g5
        refine ⟨A.length - _, ?_, _, _, _, k, p3, c3, Hs3, g3, rfl, by omega, by omega, by rw [List.length_append, List.length_singleton]; omega, by rw [List.append_assoc]; exact hT, hT2, hO3, ⟨rfl, rfl, rfl, rfl, trivial⟩, rfl⟩; omega
  · replace hc0 := of_decide_eq_false hc0; obtain rfl : i = A.length := by omega
    have hTe : (toks A V k A.length a).1 = [] ∧ (toks A V k A.length a).2 = a := by
      cases k with
      | zero => exact ⟨rfl, rfl⟩
      | succ k => rw [toks, if_neg (Nat.lt_irrefl _)]; exact ⟨rfl, rfl⟩
    rw [hTe.1, List.append_nil] at hT; rw [hTe.2] at hT2; subst hT hT2; refine W_exit (sq_x (sq_x (bl_x (sq_n (hK3 _ _ ?_))))); refine W.keep [7] rfl ?_; refine W_seq fun K21 hK21 => ?_; refine W_region ?_; refine xm rfl rfl ?_; refine xa rfl rfl ?_; refine WO_nil (sq_n (hK21 _ _ ?_)); refine W_ret (ret_of (v := _) rfl ?_); exact ⟨p2, c2, Hs, rfl, hO, rfl⟩
end
end Go.Proofs.YtpbahgddoamhgaaGreatDoor
namespace Go.Proofs.YtpbahgddoamhgaaGreatDoor
open Go.Proofs.Tryz
open Go Sx Pu
set_option maxRecDepth 10000

section
variable {P : Program} {n : Nat} {E : El} {H : Hl} {o : Oper}
theorem v_appf {t t' e e' : TypeId} {x y : Operand} {z bytes m k cap' : Nat} {zv : Value} {px py : Option Addr} {xs ys : List Value} {ti : TypeInfo}
    (ho : o.op = .call ⟨.builtin .append, #[x, y], #[t, t']⟩) (hu : P.underlying t = some (.slice e)) (hu' : P.underlying t' = some (.slice e')) (hz : ∀ w, (sizeOf e).run P w = .ok z w)
    (hti : ∀ w, (typeInfo e).run P w = .ok ti w) (hby : ti.bytes = bytes) (hzv : ∀ w, (zeroValue e).run P w = .ok zv w) (hzs : zv.cells.size = z)
    (hx : ev E x = some (.slice px m m)) (hy : ev E y = some (.slice py k cap')) (hrx : Rd z px xs m H) (hrd : Rd z py ys k H) (hlen : (2 * (m + k) + 1000) * bytes ≤ 2 ^ 48) (hlen2 : m + k < 2 ^ 62) :
    OS P n E H o (fun v' H' => (k = 0 ∧ v' = .slice px m m ∧ H' = H) ∨ ∃ b rest cap2, v' = .slice (some ⟨b, 0, none⟩) (m + k) cap2 ∧ m + k ≤ cap2 ∧ H' = (b, .cells (List.toArray (xs ++ ys ++ rest)) e (0, 0)) :: H) := fun O F a w hag hp => by
  have hy' := ev_sound hag hy; have hx' := ev_sound hag hx; have hyl := hrd.1; have hxl := hrx.1; have hfy := run_firstCells (P := P) (cap := cap') hp hrd
  have room : m < m + k → ¬ Builtin.nextslicecap (m + k) m * bytes > 2 ^ 48 := fun hc => by
    have := Nat.mul_le_mul_right bytes (nextcap_le hc); omega
  have big : ¬ (9223372036854775807 < ((m + k : Nat) : Int) ∧ bytes = 0) := by omega
  by_cases hk : k = 0
  · subst hk; have hyn : ys = [] := List.length_eq_zero_iff.1 (by simpa using hyl); subst hyn; refine ⟨.slice px m m, w, H, .inl ?_, .inl ⟨rfl, rfl, rfl⟩, hp⟩
    cases px with
    | none => simp [execOp, ho, hx', hy', resolve, invoke, builtin, Builtin.append_, underlying, hu, hu', hz, Builtin.lenOf, hfy, storeCells]
    | some q => simp [execOp, ho, hx', hy', resolve, invoke, builtin, Builtin.append_, underlying, hu, hu', hz, Builtin.lenOf, hfy, storeCells]
  · have hp1 : Hp O w.drew (H ++ F) := ⟨hp.os, hp.out, hp.nd, hp.has⟩; have hfy1 : (Builtin.firstCells z k (.slice py k cap')).run P w.drew = .ok ys.toArray w.drew := run_firstCells hp1 hrd; have hfx : (Builtin.firstCells z m (.slice px m m)).run P w.drew = .ok xs.toArray w.drew := run_firstCells hp1 hrx
    obtain ⟨nc, hnc, hge⟩ : ∃ nc, Question.cut (.appendCap (m + k) m e) (w.tape w.drawn (.appendCap (m + k) m e)) = nc ∧ m + k ≤ nc := ⟨_, rfl, by simp only [Question.cut]; omega⟩; have r0 := room (by omega); have hnr : ¬ (m + k ≤ m) := by omega
    let cells : Array Value := xs.toArray ++ ys.toArray ++ Builtin.zeroCells zv.cells (nc - (m + k))
    refine ⟨.slice (some ⟨w.drew.heap.size, 0, none⟩) (m + k) nc, w.drew.alloc (.cells cells e), (w.drew.heap.size, .cells cells e) :: H, .inl ?_, .inr ⟨w.drew.heap.size, (Builtin.zeroCells zv.cells (nc - (m + k))).toList, nc, rfl, hge, by simp [cells]⟩, hp1.cons rfl⟩
    cases px with
    | none =>
      simp [execOp, ho, hx', hy', resolve, invoke, builtin, Builtin.append_, underlying, hu, hu', hz, Builtin.lenOf, hnr, hk, hti, hby, r0, Question.forced, hnc, hzv, hfx, hfy1, newRow, cells]
      try (intro h1 h2; exfalso; omega)
    | some q =>
      simp [execOp, ho, hx', hy', resolve, invoke, builtin, Builtin.append_, underlying, hu, hu', hz, Builtin.lenOf, hnr, hk, hti, hby, r0, Question.forced, hnc, hzv, hfx, hfy1, newRow, cells]
      try (intro h1 h2; exfalso; omega)
end
namespace Pu
def tsel (U : List Nat) (i : Nat) : List Nat := (List.range i).filter fun s => U.getD s 0 == 1
def tskew (V : List Int) (most : Nat) : Nat → List Nat × List Nat × Nat × Nat → List Nat × List Nat × Nat × Nat
  | 0, st => st
  | k + 1, st => if 1 < st.2.1.length ∧ st.2.2.1 < most - 9 then
      tskew V most k (st.1.set (st.2.1.getD (nxt V st.2.2.2 st.2.1.length) 0) (st.2.2.1 + 1), st.2.1.take (nxt V st.2.2.2 st.2.1.length) ++ st.2.1.drop (nxt V st.2.2.2 st.2.1.length + 1), st.2.2.1 + 1, st.2.2.2 + 1)
    else st
def tdeep (n : Nat) : Nat → Nat → Nat
  | 0, d => d
  | k + 1, d => if 2 ^ d < n then tdeep n k (d + 1) else d
def tfill (q short : Nat) : List Nat → Nat → List Nat → List Nat
  | [], _, out => out
  | s :: r, i, out => tfill q short r (i + 1) (out.set s (if i < short then q - 1 else q))
def tree2 (st : List Nat × List Nat × Nat × Nat) : List Nat × Nat :=
  let d := tdeep st.2.1.length 10 0
  let out := tfill (st.2.2.1 + d) (2 ^ d - st.2.1.length) st.2.1 0 st.1
  (if st.2.2.1 = 0 ∧ st.2.1.length = 1 then out.set (st.2.1.getD 0 0) 1 else out, st.2.2.2)
def tree (U : List Nat) (V : List Int) (at_ most : Nat) : List Nat × Nat :=
  tree2 (tskew V most (nxt V at_ 5) (List.replicate U.length 0, tsel U U.length, 0, at_ + 1))
theorem tsel_lt {U : List Nat} {i s : Nat} (h : s ∈ tsel U i) : s < i := List.mem_range.1 (List.mem_filter.1 h).1
theorem tsel_len (U : List Nat) (i : Nat) : (tsel U i).length ≤ i := by
  have := List.length_filter_le (fun s => U.getD s 0 == 1) (List.range i); rwa [List.length_range] at this
theorem tsel_succ (U : List Nat) (i : Nat) : tsel U (i + 1) = if U.getD i 0 == 1 then tsel U i ++ [i] else tsel U i := by
  unfold tsel; rw [List.range_succ, List.filter_append]; split
  · rename_i h; rw [List.filter_cons_of_pos (p := fun s => U.getD s 0 == 1) h, List.filter_nil]
  · rename_i h; rw [List.filter_cons_of_neg (p := fun s => U.getD s 0 == 1) h, List.filter_nil, List.append_nil]
structure TSt (m : Nat) (st : List Nat × List Nat × Nat × Nat) : Prop where
  ol : st.1.length = m
  lt : ∀ s ∈ st.2.1, s < m
  ll : st.2.1.length ≤ m
  o15 : ∀ x ∈ st.1, x ≤ 4
  l4 : st.2.2.1 ≤ 4
theorem TSt.step {m : Nat} {out l : List Nat} {g a j : Nat} (h : TSt m (out, l, g, a)) (hg : g < 4) : TSt m (out.set (l.getD j 0) (g + 1), l.take j ++ l.drop (j + 1), g + 1, a + 1) := by
  refine ⟨by rw [List.length_set]; exact h.ol, fun s hs => ?_, ?_, fun x hx => ?_, by simp only; omega⟩
  · rcases List.mem_append.1 hs with h1 | h1
    · exact h.lt s (List.mem_of_mem_take h1)
    · exact h.lt s (List.mem_of_mem_drop h1)
  · have := h.ll; simp only [List.length_append, List.length_take, List.length_drop] at this ⊢
    omega
  · rcases mem_set hx with h1 | h1
    · exact h.o15 x h1
    · omega
theorem tdeep_bd {n : Nat} (hn : n ≤ 512) : ∀ k d, d ≤ 9 → 9 < k + d → (tdeep n k d ≤ 9 ∧ n ≤ 2 ^ tdeep n k d)
  | 0, d, h, h2 => by omega
  | k + 1, d, h, h2 => by
    rw [tdeep]; split
    · rename_i h1
      have : d ≠ 9 := fun e => by subst e; omega
      exact tdeep_bd hn k (d + 1) (by omega) (by omega)
    · rename_i h1; exact ⟨h, by omega⟩
theorem tfill_len (q short : Nat) : ∀ (l : List Nat) (i : Nat) (out : List Nat), (tfill q short l i out).length = out.length
  | [], _, _ => rfl
  | s :: r, i, out => by rw [tfill, tfill_len q short r]; exact List.length_set
theorem tfill_mem {q short b : Nat} (hq : q ≤ b) : ∀ (l : List Nat) (i : Nat) (out : List Nat), (∀ x ∈ out, x ≤ b) → ∀ x ∈ tfill q short l i out, x ≤ b
  | [], _, _, h => h
  | s :: r, i, out, h => tfill_mem hq r _ _ fun x hx => by
    rcases mem_set hx with h1 | h1
    · exact h x h1
    · rw [h1]; split <;> omega
theorem tskew_st {V : List Int} {most m : Nat} : ∀ k st, TSt m st → k + st.2.2.1 ≤ 4 → TSt m (tskew V most k st) ∧ st.2.2.2 ≤ (tskew V most k st).2.2.2 ∧ (tskew V most k st).2.2.2 ≤ st.2.2.2 + k
  | 0, st, h, _ => ⟨h, Nat.le_refl _, Nat.le_refl _⟩
  | k + 1, (out, l, g, a), h, hk => by
    rw [tskew]; split
    · rename_i h1
      dsimp only at h1 hk ⊢; have h2 := tskew_st (V := V) (most := most) k _ (h.step (j := nxt V a l.length) (show g < 4 by omega)) (by dsimp only; omega); exact ⟨h2.1, by have := h2.2.1; dsimp only at this; omega, by have := h2.2.2; dsimp only at this; omega⟩
    · exact ⟨h, Nat.le_refl _, by dsimp only; omega⟩
theorem tree2_ok {m : Nat} {st : List Nat × List Nat × Nat × Nat} (h : TSt m st) (hm : m ≤ 320) : (tree2 st).1.length = m ∧ (∀ x ∈ (tree2 st).1, x ≤ 13) := by
  have hd := tdeep_bd (n := st.2.1.length) (by have := h.ll; omega) 10 0 (by decide) (by decide); have hl4 := h.l4; have hf := tfill_mem (q := st.2.2.1 + tdeep st.2.1.length 10 0) (short := 2 ^ tdeep st.2.1.length 10 0 - st.2.1.length) (b := 13) (by omega) st.2.1 0 st.1 (fun x hx => by have := h.o15 x hx; omega)
  have hl := tfill_len (st.2.2.1 + tdeep st.2.1.length 10 0) (2 ^ tdeep st.2.1.length 10 0 - st.2.1.length) st.2.1 0 st.1; unfold tree2; dsimp only; split
  · refine ⟨by rw [List.length_set, hl]; exact h.ol, fun x hx => ?_⟩; rcases mem_set hx with h1 | h1
    · exact hf x h1
    · omega
  · exact ⟨by rw [hl]; exact h.ol, hf⟩
end Pu

theorem rdV_take {f : Nat → Value} {p : Option Addr} {T : List Nat} {D : Hl} {k : Nat} (h : DatV f p T D) (hk : k ≤ T.length) : Rd 1 p ((T.take k).map f) k D := by
  refine ⟨by rw [List.length_map, List.length_take]; omega, fun hk0 => ?_⟩; obtain ⟨b, off, c, ty, fz, r, h1, h2, h3⟩ := h (by intro e; subst e; simp at hk; omega); refine ⟨b, off, c, ty, fz, r, h1, h2, fun i hi => ?_⟩; rw [h3 i (by omega), List.getElem?_map, List.getElem?_take, if_pos (by omega), List.getElem?_eq_getElem (by omega)]; rfl
theorem rdV_drop {f : Nat → Value} {p : Option Addr} {T : List Nat} {D : Hl} {k m : Nat} (h : DatV f p T D) (hm : T.length ≤ m) : Rd 1 (pmv p m k 1) ((T.drop k).map f) (T.length - k) D := by
  have h2 := (DatV.sub (l := k) (u := T.length) (m := m) h (Nat.le_refl _) hm).rd; rwa [List.take_length, List.length_drop] at h2
theorem DatV.take' {f : Nat → Value} {b off : Nat} {T : List Nat} {D : Hl} {k : Nat} (h : DatV f (some ⟨b, off, none⟩) T D) (hk : k ≤ T.length) : DatV f (some ⟨b, off, none⟩) (T.take k) D := by
  have h2 := DatV.sub (l := 0) (u := k) (m := k) h hk (Nat.le_refl _); rwa [pmv_zero, List.drop_zero] at h2
def bf (n : Nat) : Value := .bool (n == 1)
section
variable {D : Hl} {cb at_ most capl capu : Nat} {pl pu : Option Addr} {V : List Int} {U : List Nat}
set_option maxHeartbeats 4000000 in
theorem tree_spec (hd : DatV bf pu U D) (hU : 0 < U.length) (hU2 : U.length ≤ 320) (hz : DatZ pl V D) (hV : ZW V) (hvl : V.length < 2 ^ 62) (ha : at_ < 2 ^ 60) (hm : most ≤ 15) :
    CallsL Tryz.prog 48 #[.slice pu U.length capu, .pointer (some ⟨cb, 0, none⟩), iV most] ((cb, chO pl V.length capl at_) :: D) fun v H' => ∃ ob G, v = .slice (some ⟨ob, 0, none⟩) U.length U.length ∧
      H' = G ++ ((ob, .cells (List.toArray ((tree U V at_ most).1.map iV)) 3 (0, 0)) :: (cb, chO pl V.length capl (tree U V at_ most).2) :: D) := by
  obtain ⟨n, hn⟩ : ∃ n, U.length = n := ⟨_, rfl⟩; have htr : tree2 (tskew V most (nxt V at_ 5) (List.replicate n 0, tsel U n, 0, at_ + 1)) = tree U V at_ most := by unfold tree; rw [hn]
  have hn5 := nxt_lt V at_ (most := 5) (by decide); rw [hn] at hU hU2 ⊢; obtain ⟨b2, off, c, ty, fz, r, rfl, hat, hcc⟩ := hd (by intro e; subst e; simp at hn; omega); have hga : ∀ j, j < n → c[off + j]? = some (bf (U.getD j 0)) := fun j hj => by rw [hcc j (by omega), getD_in (by omega)]
  refine CallsL_of func48 rfl ntmps48 rfl ?_; try dsimp only [initE, Nat.zero_add]
  refine W_seq fun K1 hK1 => ?_; refine W_region ?_; refine xa rfl rfl ?_; refine WO_nil (sq_n (hK1 _ _ ?_)); refine W_seq fun K2 hK2 => ?_; refine W_region ?_; refine xm rfl rfl ?_; refine xp (v_len rfl underlying105 rfl) rfl ?_; refine ws (v_mk (bytes := 8) rfl underlying23 sizeOf3 typeInfo3 rfl zeroValue3 rfl rfl (by omega) (by omega) rfl rfl) rfl rfl rfl ?_; rintro _ _ ⟨ob, rfl, rfl, _⟩; refine xa rfl rfl ?_
  refine WO_nil (sq_n (hK2 _ _ ?_)); refine W.keep [0,1,2,6,7] rfl ?_; refine W_seq fun K3 hK3 => ?_; refine W_region ?_; refine xa rfl rfl ?_; refine WO_nil (sq_n (hK3 _ _ ?_)); refine W_seq fun K4 hK4 => ?_; refine W_seq fun K5 hK5 => ?_; refine W_region ?_; refine xm rfl rfl ?_; refine xp (v_len rfl underlying105 rfl) rfl ?_; refine xm rfl rfl ?_; refine WO_nil (sq_n (hK5 _ _ ?_)); refine W_block ?_
  refine W_loop (fun m E H => ∃ i p2 c2 Hs, i ≤ n ∧ m = n - i ∧ OwnV iV 3 p2 c2 (tsel U i) Hs ∧ Sub E [(1, .pointer (some ⟨cb, 0, none⟩)), (2, iV most), (7, .slice (some ⟨ob, 0, none⟩) n n), (8, .slice p2 (tsel U i).length c2), (21, .slice (some ⟨b2, off, none⟩) n capu), (22, iV n), (23, iV i)] ∧ H = Hs ++ ((ob, .cells (List.toArray ((List.replicate n 0).map iV)) 3 (0, 0)) :: (cb, chO pl V.length capl at_) :: D)) (m := _) (⟨0, none, 0, [], by omega, rfl, OwnV.nil, ⟨rfl, rfl, rfl, rfl, rfl, rfl, rfl, trivial⟩, by rw [List.map_replicate]; rfl⟩) ?_
  rintro m E H ⟨i, p2, c2, Hs, hi, rfl, hO, hE, rfl⟩; refine W.env hE ?_; have htl := tsel_len U i; refine W_seq fun K6 hK6 => ?_; refine W_region ?_; refine xp (n_lt rfl rfl rfl) rfl ?_; refine WO_nil (sq_n (hK6 _ _ ?_)); refine W_seq fun K7 hK7 => ?_; refine W_cond rfl (fun hc0 => ?_) (fun hc0 => ?_)
  · replace hc0 := of_decide_eq_true hc0; refine W_skip (sq_n (hK7 _ _ ?_)); refine W_seq fun K8 hK8 => ?_; refine W_block ?_; refine W_seq fun K9 hK9 => ?_; refine W_region ?_; refine xm rfl rfl ?_; refine xp (v_ixs rfl underlying105 sizeOf4 rfl rfl (by omega)) rfl ?_; refine xv (v_ld rfl rfl isAgg4 (hga i hc0)) rfl ?_; refine xa rfl rfl ?_; refine xa rfl rfl ?_; refine WO_nil (sq_n (hK9 _ _ ?_))
    refine W_seq fun K10 hK10 => ?_; refine W_region ?_; refine xm rfl rfl ?_; refine WO_nil (sq_n (hK10 _ _ ?_)); refine W_cond rfl (fun hc1 => ?_) (fun hc1 => ?_)
    · skip
      refine W_region ?_; refine xm rfl rfl ?_; refine xm rfl rfl ?_; refine wapp1 (bytes := 8) underlying23 sizeOf3 typeInfo3 rfl zeroValue3 rfl hO rfl (fun _ => rfl) (by omega) (by decide) rfl rfl (c := i) rfl rfl rfl rfl rfl rfl rfl (fun _ => rfl) (fun _ => rfl) ?_; intro vb p3 c3 Hs3 hO2; refine xa rfl rfl ?_; refine WO_nil (bl_n (sq_n (hK8 _ _ ?_))); refine W_region ?_
      refine xp (n_add rfl rfl rfl kI (by omega)) rfl ?_; refine xm rfl rfl ?_; refine WO_nil (sq_n (?_)); first
      | (have hq := hc1; have hq2 := hO2; exact ⟨n - (i + 1), by omega, i + 1, p3, c3, Hs3, by omega, rfl, by rw [tsel_succ, if_pos hq]; exact hO2, ⟨rfl, rfl, rfl, by rw [tsel_succ, if_pos hq]; rfl, rfl, rfl, rfl, trivial⟩, rfl⟩)
      | (have hq : ¬ (U.getD i 0 == 1) = true := by rw [hc1]; decide
         exact ⟨n - (i + 1), by omega, i + 1, p2, c2, Hs, by omega, rfl, by rw [tsel_succ, if_neg hq]; exact hO, ⟨rfl, rfl, rfl, by rw [tsel_succ, if_neg hq]; rfl, rfl, rfl, rfl, trivial⟩, rfl⟩)
    · skip
      refine W_skip (bl_n (sq_n (hK8 _ _ ?_))); refine W_region ?_; refine xp (n_add rfl rfl rfl kI (by omega)) rfl ?_; refine xm rfl rfl ?_; refine WO_nil (sq_n (?_)); first
      | (have hq := hc1; have hq2 := hO2; exact ⟨n - (i + 1), by omega, i + 1, p3, c3, Hs3, by omega, rfl, by rw [tsel_succ, if_pos hq]; exact hO2, ⟨rfl, rfl, rfl, by rw [tsel_succ, if_pos hq]; rfl, rfl, rfl, rfl, trivial⟩, rfl⟩)
      | (have hq : ¬ (U.getD i 0 == 1) = true := by rw [hc1]; decide
         exact ⟨n - (i + 1), by omega, i + 1, p2, c2, Hs, by omega, rfl, by rw [tsel_succ, if_neg hq]; exact hO, ⟨rfl, rfl, rfl, by rw [tsel_succ, if_neg hq]; rfl, rfl, rfl, rfl, trivial⟩, rfl⟩)
  · replace hc0 := of_decide_eq_false hc0; obtain rfl : i = n := by omega
    refine W_exit (sq_x (sq_x (bl_x (sq_n (hK4 _ _ ?_))))); refine W.keep [1,2,7,8] rfl ?_; refine W_seq fun K11 hK11 => ?_; obtain ⟨l0, hl0⟩ : ∃ l0, tsel U i = l0 := ⟨_, rfl⟩; have hst0 : TSt i (List.replicate i 0, l0, 0, at_ + 1) := ⟨List.length_replicate, fun s hs => by rw [← hl0] at hs; exact tsel_lt hs, by rw [← hl0]; exact htl, fun x hx => by rw [(List.mem_replicate.1 hx).2]; decide, Nat.zero_le _⟩
    rw [hl0] at hO htr htl ⊢; have hdl := hO.dat; have hcl := hO.capl; refine W_region ?_; refine xa rfl rfl ?_; refine WO_nil (sq_n (hK11 _ _ ?_)); refine W_seq fun K12 hK12 => ?_; refine W_seq fun K13 hK13 => ?_; refine W_region ?_; refine xm rfl rfl ?_; refine wc (e_c rfl rfl rfl call30) rfl rfl rfl (next_spec hz hV (by decide) (by decide) (by omega) hvl) (.app (.skip .all)) ?_; rintro _ _ ⟨rfl, rfl⟩
    (try simp only [ap4]); refine xa rfl rfl ?_; refine WO_nil (sq_n (hK13 _ _ ?_)); refine W_block ?_
    refine W_loop (fun m E H => ∃ k out l g a pq c2 G, tree2 (tskew V most k (out, l, g, a)) = tree U V at_ most ∧ k = m ∧ k + g ≤ 4 ∧ a = at_ + 1 + g ∧ TSt i (out, l, g, a) ∧ DatI pq l G ∧ l.length ≤ c2 ∧ Sub E [(1, .pointer (some ⟨cb, 0, none⟩)), (2, iV most), (7, .slice (some ⟨ob, 0, none⟩) i i), (8, .slice pq l.length c2), (11, iV g), (12, iV k)] ∧ H = G ++ ((ob, .cells (List.toArray (out.map iV)) 3 (0, 0)) :: (cb, chO pl V.length capl a) :: D)) (m := _) (⟨nxt V at_ 5, List.replicate i 0, l0, 0, at_ + 1, p2, c2, Hs, htr, rfl, by omega, rfl, hst0, hdl, hcl, ⟨rfl, rfl, rfl, rfl, rfl, rfl, trivial⟩, rfl⟩) ?_
    clear hO hdl hcl hst0 htl htr hn5; rintro m E H ⟨k, out, l, g, a, pq, c2, G, htr, rfl, hkg, rfl, hst, hdl, hcl, hE, rfl⟩; refine W.env hE ?_; have hol := hst.ol; have hll := hst.ll; dsimp only at hol hll; refine W_seq fun K14 hK14 => ?_; refine W_seq fun K15 hK15 => ?_; by_cases hk1 : 0 < k
    · skip
      by_cases hk2 : 1 < l.length
      · skip
        by_cases hk3 : g < most - 9
        · skip
          refine W_region ?_; refine xm rfl rfl ?_; refine xp (v_gt rfl rfl rfl (dT (by omega))) rfl ?_; refine xm rfl rfl ?_; refine xm rfl rfl ?_; refine xp (v_len rfl underlying23 rfl) rfl ?_; refine xp (v_gt rfl rfl rfl (dT (by omega))) rfl ?_; refine xp (v_pt rfl rfl rfl) rfl ?_; refine xm rfl rfl ?_; refine xm rfl rfl ?_; refine xm rfl rfl ?_
          refine xp (v_sub rfl rfl rfl (r := (most : Int) - 9) (wrapI (by omega) (by omega))) rfl ?_; refine xp (v_lt rfl rfl rfl (dT (by omega))) rfl ?_; refine xp (v_pt rfl rfl rfl) rfl ?_; refine WO_nil (sq_n (hK15 _ _ ?_)); refine W_cond_t rfl ?_; refine W_skip (sq_n (hK14 _ _ ?_))
          refine W_seq_mid (fun E H => ∃ j p5 c5 G5, j = nxt V (at_ + 1 + g) l.length ∧ j < l.length ∧ DatI p5 (l.take j ++ l.drop (j + 1)) G5 ∧ l.length - 1 ≤ c5 ∧ Sub E [(1, .pointer (some ⟨cb, 0, none⟩)), (2, iV most), (7, .slice (some ⟨ob, 0, none⟩) i i), (8, .slice p5 (l.length - 1) c5), (11, iV (g + 1)), (12, iV k)] ∧ H = G5 ++ ((ob, .cells (List.toArray ((out.set (l.getD j 0) (g + 1)).map iV)) 3 (0, 0)) :: (cb, chO pl V.length capl (at_ + 1 + g + 1)) :: D)) ?_ ?_
          · skip
            refine W_block ?_; refine W_seq fun K17 hK17 => ?_; refine W_region ?_; refine xm rfl rfl ?_; refine xm rfl rfl ?_; refine xp (v_len rfl underlying23 rfl) rfl ?_; refine wc (e_c rfl rfl rfl call30) rfl rfl rfl (next_spec hz hV (by omega) (by omega) (by omega) hvl) (.app (.skip .all)) ?_; rintro _ _ ⟨rfl, rfl⟩; obtain ⟨j, hj⟩ : ∃ j, nxt V (at_ + 1 + g) l.length = j := ⟨_, rfl⟩
            have hjl : j < l.length := by rw [← hj]; exact nxt_lt _ _ (by omega)
            rw [hj]; (try simp only [ap4]); refine xa rfl rfl ?_; refine WO_nil (sq_n (hK17 _ _ ?_)); refine W_seq fun K18 hK18 => ?_; refine W_region ?_; refine xm rfl rfl ?_; refine xp (n_add rfl rfl rfl kI (by omega)) rfl ?_; refine xa rfl rfl ?_; refine WO_nil (sq_n (hK18 _ _ ?_)); refine W_seq fun K19 hK19 => ?_; obtain ⟨b3, off3, c3, ty3, fz3, r3, rfl, hat3, hcc3⟩ := hdl (by intro e; subst e; simp at hjl)
            have hat4 := AtH.appl (D := (ob, .cells (List.toArray (out.map iV)) 3 (0, 0)) :: (cb, chO pl V.length capl (at_ + 1 + g + 1)) :: D) hat3; have hgj : l.getD j 0 < i := by rw [getD_in hjl]; exact hst.lt _ (List.getElem_mem hjl)
            refine W_region ?_; refine xm rfl rfl ?_; refine xm rfl rfl ?_; refine xm rfl rfl ?_; refine xp (v_ixs rfl underlying23 sizeOf3 rfl rfl (by omega)) rfl ?_; refine xv (v_ld rfl rfl isAgg3 (v := iV (l.getD j 0)) (by rw [hcc3 j hjl, getD_in hjl])) rfl ?_; refine xm rfl rfl ?_; refine xp (v_ixs rfl underlying23 sizeOf3 rfl rfl (by omega)) rfl ?_
            refine wst' rfl rfl rfl sizeOf3 rfl (List.map_set (f := iV)).symm (by rw [List.length_map]; omega) rfl rfl ?_; refine WO_nil (sq_n (hK19 _ _ ?_)); refine W_draw mixed ?_; refine WA_k (fuel := 2) [0,1,2,3,4,5,6,7] rfl (by kernel_rfl) ?_; refine ym rfl rfl rfl ?_; refine ym rfl rfl rfl ?_; refine ym rfl rfl rfl ?_
            refine yp rfl (v_slp rfl underlying23 sizeOf3 rfl (.some rfl) (.some rfl) .none (by omega) (by omega) (by omega) (by decide)) rfl ?_; refine ym rfl rfl rfl ?_; refine ym rfl rfl rfl ?_; refine yp rfl (n_add rfl rfl rfl kI (by omega)) rfl ?_; refine yp rfl (v_slp rfl underlying23 sizeOf3 rfl .none .none (.some rfl) (by omega) (by omega) (by omega) (by decide)) rfl ?_; refine WK_nil ?_
            refine WA_one (k := 8) rfl (by kernel_rfl) ?_; rw [pmv_zero]; refine ws (v_appf (bytes := 8) (m := j) (k := l.length - (j + 1)) rfl underlying23 underlying23 sizeOf3 typeInfo3 rfl zeroValue3 rfl rfl rfl (rdV_take (hdl.appl _) (by omega)) (rdV_drop (hdl.appl _) hcl) (by omega) (by omega)) rfl rfl rfl ?_; rintro _ _ (⟨hk0, rfl, rfl⟩ | ⟨b5, rest5, c5, rfl, hc5, rfl⟩)
            · skip
              refine WO_nil (sq_n ?_); refine WA_k (fuel := 0) [9] rfl (by kernel_rfl) ?_; refine yp rfl (v_as rfl rfl) rfl ?_; refine WK_nil ?_; refine WA_nil (by kernel_rfl) (bl_n (sq_n (?_))); first
              | (have hq := hk0
                 have e1 : l.length - 1 = j := by omega
                 refine ⟨j, _, j, G, hj.symm, hjl, ?_, by omega, ⟨rfl, rfl, rfl, by rw [e1]; rfl, rfl, rfl, trivial⟩, rfl⟩; rw [List.drop_eq_nil_of_le (by omega), List.append_nil]; exact DatV.take' hdl (by omega))
              | (have e1 : j + (l.length - (j + 1)) = l.length - 1 := by omega
                 rw [e1] at hc5; refine ⟨j, some ⟨b5, 0, none⟩, c5, _ :: G, hj.symm, hjl, ?_, hc5, ⟨rfl, rfl, rfl, by rw [← e1]; rfl, rfl, rfl, trivial⟩, rfl⟩; rw [← List.map_append]; exact datV_own)
            · skip
              refine WO_nil (sq_n ?_); refine WA_k (fuel := 0) [9] rfl (by kernel_rfl) ?_; refine yp rfl (v_as rfl rfl) rfl ?_; refine WK_nil ?_; refine WA_nil (by kernel_rfl) (bl_n (sq_n (?_))); first
              | (have hq := hk0
                 have e1 : l.length - 1 = j := by omega
                 refine ⟨j, _, j, G, hj.symm, hjl, ?_, by omega, ⟨rfl, rfl, rfl, by rw [e1]; rfl, rfl, rfl, trivial⟩, rfl⟩; rw [List.drop_eq_nil_of_le (by omega), List.append_nil]; exact DatV.take' hdl (by omega))
              | (have e1 : j + (l.length - (j + 1)) = l.length - 1 := by omega
                 rw [e1] at hc5; refine ⟨j, some ⟨b5, 0, none⟩, c5, _ :: G, hj.symm, hjl, ?_, hc5, ⟨rfl, rfl, rfl, by rw [← e1]; rfl, rfl, rfl, trivial⟩, rfl⟩; rw [← List.map_append]; exact datV_own)
          · rintro E H ⟨j, p5, c5, G5, hj2, hjl, hd5, hc5, hE, rfl⟩; refine W.env hE ?_; refine W_region ?_; refine xm rfl rfl ?_; refine xp (n_sub rfl rfl rfl kI (by omega) (by omega)) rfl ?_; refine xa rfl rfl ?_; refine WO_nil (sq_n (?_)); skip
            obtain ⟨k, rfl⟩ : ∃ j, k = j + 1 := ⟨k - 1, by omega⟩; rw [tskew, if_pos ⟨hk2, hk3⟩] at htr; dsimp only at htr; have hl3 : (l.take j ++ l.drop (j + 1)).length = l.length - 1 := by simp only [List.length_append, List.length_take, List.length_drop]; omega
            rw [← hj2] at htr; exact ⟨k, by omega, k, _, _, g + 1, _, p5, c5, G5, htr, rfl, by omega, by omega, hst.step (by omega), hd5, by omega, ⟨rfl, rfl, rfl, by rw [hl3]; rfl, rfl, rfl, trivial⟩, rfl⟩
        · have hstop : tree2 (out, l, g, at_ + 1 + g) = tree U V at_ most := by
            obtain ⟨k, rfl⟩ : ∃ j, k = j + 1 := ⟨k - 1, by omega⟩; rw [tskew, if_neg (fun h => hk3 h.2)] at htr; exact htr
          refine W_region ?_; refine xm rfl rfl ?_; refine xp (v_gt rfl rfl rfl (dT (by omega))) rfl ?_; refine xm rfl rfl ?_; refine xm rfl rfl ?_; refine xp (v_len rfl underlying23 rfl) rfl ?_; refine xp (v_gt rfl rfl rfl (dT (by omega))) rfl ?_; refine xp (v_pt rfl rfl rfl) rfl ?_; refine xm rfl rfl ?_; refine xm rfl rfl ?_; refine xm rfl rfl ?_
          refine xp (v_sub rfl rfl rfl (r := (most : Int) - 9) (wrapI (by omega) (by omega))) rfl ?_; refine xp (v_lt rfl rfl rfl (dF (by omega))) rfl ?_; refine xp (v_pt rfl rfl rfl) rfl ?_; refine WO_nil (sq_n (hK15 _ _ ?_)); refine W_cond_f rfl ?_; refine W_exit (sq_x (sq_x (bl_x (sq_n (hK12 _ _ ?_))))); refine W.keep [7,8,11] rfl ?_; refine W_seq fun K20 hK20 => ?_; refine W_region ?_; refine xa rfl rfl ?_
          refine WO_nil (sq_n (hK20 _ _ ?_)); refine W_seq fun K21 hK21 => ?_; refine W_block ?_
          refine W_loop (fun m E H => ∃ d k2, k2 + d = 10 ∧ k2 = m ∧ d ≤ 9 ∧ tdeep l.length k2 d = tdeep l.length 10 0 ∧ Sub E [(7, .slice (some ⟨ob, 0, none⟩) i i), (8, .slice pq l.length c2), (11, iV g), (14, iV d)] ∧ H = G ++ ((ob, .cells (List.toArray (out.map iV)) 3 (0, 0)) :: (cb, chO pl V.length capl (at_ + 1 + g)) :: D)) (m := _) (⟨0, 10, rfl, rfl, by decide, rfl, ⟨rfl, rfl, rfl, rfl, trivial⟩, rfl⟩) ?_
          rintro m E H ⟨d, k2, hkd, rfl, hd9, htd, hE, rfl⟩; refine W.env hE ?_; have hp9 : 2 ^ d ≤ 2 ^ 9 := Nat.pow_le_pow_right (by decide) hd9; refine W_seq fun K22 hK22 => ?_; refine W_seq fun K23 hK23 => ?_; refine W_region ?_; refine xm rfl rfl ?_; refine xp (n_shl rfl rfl rfl kI (by show _ ≤ 64; omega) (by omega)) rfl ?_; refine xm rfl rfl ?_; refine xp (v_len rfl underlying23 rfl) rfl ?_
          refine xp (n_lt rfl rfl rfl) rfl ?_; refine WO_nil (sq_n (hK23 _ _ ?_)); refine W_cond rfl (fun hc3 => ?_) (fun hc3 => ?_)
          · replace hc3 := of_decide_eq_true hc3; refine W_skip (sq_n (hK22 _ _ ?_)); refine W_block ?_; refine W_region ?_; refine xm rfl rfl ?_; refine xp (n_add rfl rfl rfl kI (by omega)) rfl ?_; refine xa rfl rfl ?_; refine WO_nil (bl_n (sq_n (?_))); obtain ⟨k2, rfl⟩ : ∃ j, k2 = j + 1 := ⟨k2 - 1, by omega⟩; rw [tdeep, if_pos (by omega)] at htd; have hd8 : d ≠ 9 := fun e => by subst e; omega
            exact ⟨k2, by omega, d + 1, k2, by omega, rfl, by omega, htd, ⟨rfl, rfl, rfl, rfl, trivial⟩, rfl⟩
          · replace hc3 := of_decide_eq_false hc3
            have htd2 : tdeep l.length 10 0 = d := by
              rw [← htd]
              cases k2 with
              | zero => rfl
              | succ k2 => rw [tdeep, if_neg (by omega)]
            rw [show (1 : Nat) * 2 ^ d = 2 ^ d by omega] at *; refine W_exit (sq_x (sq_x (bl_x (sq_n (hK21 _ _ ?_))))); refine W.keep [7,8,11,14] rfl ?_; refine W_seq fun K24 hK24 => ?_; refine W_region ?_; refine xm rfl rfl ?_; refine xp (n_shl rfl rfl rfl kI (by show _ ≤ 64; omega) (by omega)) rfl ?_; refine xm rfl rfl ?_; refine xp (v_len rfl underlying23 rfl) rfl ?_
            refine xp (n_sub rfl rfl rfl kI (by omega) (by omega)) rfl ?_; refine xa rfl rfl ?_; refine WO_nil (sq_n (hK24 _ _ ?_)); refine W.keep [7,8,11,14,15] rfl ?_; refine W_seq fun K25 hK25 => ?_; refine W_seq fun K26 hK26 => ?_; rw [Nat.one_mul]; obtain ⟨sh, hsh⟩ : ∃ sh, 2 ^ d - l.length = sh := ⟨_, rfl⟩; rw [hsh]; obtain ⟨of, hof⟩ : ∃ of, tfill (g + d) sh l 0 out = of := ⟨_, rfl⟩
            have hfin : (if g = 0 ∧ l.length = 1 then of.set (l.getD 0 0) 1 else of, at_ + 1 + g) = tree U V at_ most := by
              rw [← hstop]; unfold tree2; dsimp only; rw [htd2, hsh, hof]
            clear hstop htr; refine W_region ?_; refine xm rfl rfl ?_; refine xp (v_len rfl underlying23 rfl) rfl ?_; refine xm rfl rfl ?_; refine WO_nil (sq_n (hK26 _ _ ?_)); refine W_block ?_
            refine W_loop (fun m E H => ∃ s ou, s ≤ l.length ∧ m = l.length - s ∧ tfill (g + d) sh (l.drop s) s ou = of ∧ ou.length = i ∧ Sub E [(7, .slice (some ⟨ob, 0, none⟩) i i), (8, .slice pq l.length c2), (11, iV g), (14, iV d), (15, iV sh), (85, .slice pq l.length c2), (86, iV l.length), (87, iV s)] ∧ H = G ++ ((ob, .cells (List.toArray (ou.map iV)) 3 (0, 0)) :: (cb, chO pl V.length capl (at_ + 1 + g)) :: D)) (m := _) (⟨0, out, by omega, rfl, hof, hol, ⟨rfl, rfl, rfl, rfl, rfl, rfl, rfl, rfl, trivial⟩, rfl⟩) ?_
            rintro m E H ⟨s, ou, hs, rfl, htf, hou, hE, rfl⟩; refine W.env hE ?_; refine W_seq fun K27 hK27 => ?_; refine W_region ?_; refine xp (n_lt rfl rfl rfl) rfl ?_; refine WO_nil (sq_n (hK27 _ _ ?_)); refine W_seq fun K28 hK28 => ?_; refine W_cond rfl (fun hc4 => ?_) (fun hc4 => ?_)
            · replace hc4 := of_decide_eq_true hc4; obtain ⟨b3, off3, c3, ty3, fz3, r3, rfl, hat3, hcc3⟩ := hdl (by intro e; subst e; simp at hc4); have hat4 := AtH.appl (D := (ob, .cells (List.toArray (ou.map iV)) 3 (0, 0)) :: (cb, chO pl V.length capl (at_ + 1 + g)) :: D) hat3; have hgj : l.getD s 0 < i := by rw [getD_in hc4]; exact hst.lt _ (List.getElem_mem hc4)
              refine W_skip (sq_n (hK28 _ _ ?_))
              refine W_seq_mid (fun E H => Sub E [(7, .slice (some ⟨ob, 0, none⟩) i i), (8, .slice (some ⟨b3, off3, none⟩) l.length c2), (11, iV g), (14, iV d), (15, iV sh), (85, .slice (some ⟨b3, off3, none⟩) l.length c2), (86, iV l.length), (87, iV s)] ∧ H = G ++ ((ob, .cells (List.toArray ((ou.set (l.getD s 0) (if s < sh then g + d - 1 else g + d)).map iV)) 3 (0, 0)) :: (cb, chO pl V.length capl (at_ + 1 + g)) :: D)) ?_ ?_
              · skip
                refine W_block ?_; refine W_seq fun K30 hK30 => ?_; refine W_region ?_; refine xm rfl rfl ?_; refine xp (v_ixs rfl underlying23 sizeOf3 rfl rfl (by omega)) rfl ?_; refine xv (v_ld rfl rfl isAgg3 (v := iV (l.getD s 0)) (by rw [hcc3 s hc4, getD_in hc4])) rfl ?_; refine xa rfl rfl ?_; refine xa rfl rfl ?_; refine WO_nil (sq_n (hK30 _ _ ?_)); refine W_seq fun K31 hK31 => ?_; refine W_region ?_
                refine xm rfl rfl ?_; refine xm rfl rfl ?_; refine xm rfl rfl ?_; refine xm rfl rfl ?_; refine xp (n_add rfl rfl rfl kI (by omega)) rfl ?_; refine xp (v_ixs rfl underlying23 sizeOf3 rfl rfl (by omega)) rfl ?_; refine wst' rfl rfl rfl sizeOf3 rfl (List.map_set (f := iV)).symm (by rw [List.length_map]; omega) rfl rfl ?_; refine WO_nil (sq_n (hK31 _ _ ?_)); refine W_seq fun K32 hK32 => ?_
                refine W_region ?_; refine xm rfl rfl ?_; refine xm rfl rfl ?_; refine xp (n_lt rfl rfl rfl) rfl ?_; refine WO_nil (sq_n (hK32 _ _ ?_)); refine W_cond rfl (fun hc5 => ?_) (fun hc5 => ?_)
                · replace hc5 := of_decide_eq_true hc5; have hos : (ou.set (l.getD s 0) (g + d)).length = i := by rw [List.length_set]; exact hou
                  have hog : (ou.set (l.getD s 0) (g + d)).getD (l.getD s 0) 0 = g + d := by rw [getD_set (by omega), if_pos rfl]
                  have hd1 : 1 ≤ d := by
                    rcases Nat.eq_zero_or_pos d with h0 | h0
                    · subst h0; have : 2 ^ 0 = 1 := rfl; omega
                    · exact h0
                  refine W_region ?_; refine xm rfl rfl ?_; refine xm rfl rfl ?_; refine xp (v_ixs rfl underlying23 sizeOf3 rfl rfl (by omega)) rfl ?_; refine xv (v_ld rfl rfl isAgg3 (v := iV (g + d)) (by rw [ints_at (by omega), hog])) rfl ?_; refine xp (n_sub rfl rfl rfl kI (by omega) (by omega)) rfl ?_; refine xp (v_ixs rfl underlying23 sizeOf3 rfl rfl (by omega)) rfl ?_
                  refine wst' rfl rfl rfl sizeOf3 rfl (by rw [← List.map_set, List.set_set]) (by rw [List.length_map]; omega) rfl rfl ?_; refine WO_nil (bl_n (sq_n (?_))); first
                  | (have hq : s < sh := hc5; rw [if_pos hq]; exact ⟨⟨rfl, rfl, rfl, rfl, rfl, rfl, rfl, rfl, trivial⟩, rfl⟩)
                  | (have hq : ¬ s < sh := hc5; rw [if_neg hq]; exact ⟨⟨rfl, rfl, rfl, rfl, rfl, rfl, rfl, rfl, trivial⟩, rfl⟩)
                · replace hc5 := of_decide_eq_false hc5; refine W_skip (bl_n (sq_n (?_))); first
                  | (have hq : s < sh := hc5; rw [if_pos hq]; exact ⟨⟨rfl, rfl, rfl, rfl, rfl, rfl, rfl, rfl, trivial⟩, rfl⟩)
                  | (have hq : ¬ s < sh := hc5; rw [if_neg hq]; exact ⟨⟨rfl, rfl, rfl, rfl, rfl, rfl, rfl, rfl, trivial⟩, rfl⟩)
              · rintro E H ⟨hE, rfl⟩; refine W.env hE ?_; refine W_region ?_; refine xp (n_add rfl rfl rfl kI (by omega)) rfl ?_; refine xm rfl rfl ?_; refine WO_nil (sq_n (?_)); rw [List.drop_eq_getElem_cons hc4, tfill, ← getD_in (d := 0) hc4] at htf; exact ⟨l.length - (s + 1), by omega, s + 1, _, by omega, rfl, htf, by rw [List.length_set]; exact hou, ⟨rfl, rfl, rfl, rfl, rfl, rfl, rfl, rfl, trivial⟩, rfl⟩
            · replace hc4 := of_decide_eq_false hc4; obtain rfl : s = l.length := by omega
              rw [List.drop_length, tfill] at htf; subst htf; refine W_exit (sq_x (sq_x (bl_x (sq_n (hK25 _ _ ?_))))); refine W.keep [7,8,11] rfl ?_; refine W_seq fun K33 hK33 => ?_; refine W_seq fun K34 hK34 => ?_; by_cases hg0 : g = 0
              · skip
                by_cases hl1 : l.length = 1
                · rw [if_pos ⟨hg0, hl1⟩] at hfin; obtain ⟨b3, off3, c3, ty3, fz3, r3, rfl, hat3, hcc3⟩ := hdl (by intro e; subst e; simp at hl1); have hat4 := AtH.appl (D := (ob, .cells (List.toArray (ou.map iV)) 3 (0, 0)) :: (cb, chO pl V.length capl (at_ + 1 + g)) :: D) hat3; have hl01 : 0 < l.length := by omega
                  have hgj : l.getD 0 0 < i := by rw [getD_in hl01]; exact hst.lt _ (List.getElem_mem hl01)
                  refine W_region ?_; refine xm rfl rfl ?_; refine xp (v_eq rfl rfl rfl (dT (by omega))) rfl ?_; refine xm rfl rfl ?_; refine xm rfl rfl ?_; refine xp (v_len rfl underlying23 rfl) rfl ?_; refine xp (v_eq rfl rfl rfl (dT (by omega))) rfl ?_; refine xp (v_pt rfl rfl rfl) rfl ?_; refine WO_nil (sq_n (hK34 _ _ ?_)); refine W.keep [7,8,114] rfl ?_; refine W_cond_t rfl ?_; refine W_region ?_
                  refine xm rfl rfl ?_; refine xm rfl rfl ?_; refine xp (v_ixs rfl underlying23 sizeOf3 rfl rfl (by omega)) rfl ?_; refine xv (v_ld rfl rfl isAgg3 (v := iV (l.getD 0 0)) (by rw [hcc3 0 hl01, getD_in hl01])) rfl ?_; refine xp (v_ixs rfl underlying23 sizeOf3 rfl rfl (by omega)) rfl ?_; refine wst' rfl rfl rfl sizeOf3 rfl (List.map_set (f := iV) (a := 1)).symm (by rw [List.length_map]; omega) rfl rfl ?_
                  refine WO_nil (sq_n (hK33 _ _ ?_)); refine W.keep [7] rfl ?_; refine W_seq fun K35 hK35 => ?_; refine W_region ?_; refine xm rfl rfl ?_; refine xa rfl rfl ?_; refine WO_nil (sq_n (hK35 _ _ ?_)); refine W_ret (ret_of (v := _) rfl ?_); rw [← hfin]; exact ⟨ob, G, rfl, rfl⟩
                · rw [if_neg (fun h => hl1 h.2)] at hfin; refine W_region ?_; refine xm rfl rfl ?_; refine xp (v_eq rfl rfl rfl (dT (by omega))) rfl ?_; refine xm rfl rfl ?_; refine xm rfl rfl ?_; refine xp (v_len rfl underlying23 rfl) rfl ?_; refine xp (v_eq rfl rfl rfl (dF (by omega))) rfl ?_; refine xp (v_pt rfl rfl rfl) rfl ?_; refine WO_nil (sq_n (hK34 _ _ ?_)); refine W.keep [7,8,114] rfl ?_
                  refine W_cond_f rfl ?_; refine W_skip (sq_n (hK33 _ _ ?_)); refine W_seq fun K36 hK36 => ?_; refine W_region ?_; refine xm rfl rfl ?_; refine xa rfl rfl ?_; refine WO_nil (sq_n (hK36 _ _ ?_)); refine W.keep [6] rfl ?_; refine W_ret (ret_of (v := _) rfl ?_); rw [← hfin]; exact ⟨ob, G, rfl, rfl⟩
              · rw [if_neg (fun h => hg0 h.1)] at hfin; refine W_region ?_; refine xm rfl rfl ?_; refine xp (v_eq rfl rfl rfl (dF (by omega))) rfl ?_; refine xm rfl rfl ?_; refine xno rfl ?_; refine xno rfl ?_; refine xno rfl ?_; refine xp (v_pf rfl rfl rfl) rfl ?_; refine WO_nil (sq_n (hK34 _ _ ?_)); refine W.keep [7,8,114] rfl ?_; refine W_cond_f rfl ?_; refine W_skip (sq_n (hK33 _ _ ?_))
                refine W_seq fun K37 hK37 => ?_; refine W_region ?_; refine xm rfl rfl ?_; refine xa rfl rfl ?_; refine WO_nil (sq_n (hK37 _ _ ?_)); refine W.keep [6] rfl ?_; refine W_ret (ret_of (v := _) rfl ?_); rw [← hfin]; exact ⟨ob, G, rfl, rfl⟩
      · have hstop : tree2 (out, l, g, at_ + 1 + g) = tree U V at_ most := by
          obtain ⟨k, rfl⟩ : ∃ j, k = j + 1 := ⟨k - 1, by omega⟩; rw [tskew, if_neg (fun h => hk2 h.1)] at htr; exact htr
        refine W_region ?_; refine xm rfl rfl ?_; refine xp (v_gt rfl rfl rfl (dT (by omega))) rfl ?_; refine xm rfl rfl ?_; refine xm rfl rfl ?_; refine xp (v_len rfl underlying23 rfl) rfl ?_; refine xp (v_gt rfl rfl rfl (dF (by omega))) rfl ?_; refine xp (v_pt rfl rfl rfl) rfl ?_; refine xm rfl rfl ?_; refine xno rfl ?_; refine xno rfl ?_; refine xno rfl ?_; refine xno rfl ?_; refine xp (v_pf rfl rfl rfl) rfl ?_
        refine WO_nil (sq_n (hK15 _ _ ?_)); refine W_cond_f rfl ?_; refine W_exit (sq_x (sq_x (bl_x (sq_n (hK12 _ _ ?_))))); refine W.keep [7,8,11] rfl ?_; refine W_seq fun K38 hK38 => ?_; refine W_region ?_; refine xa rfl rfl ?_; refine WO_nil (sq_n (hK38 _ _ ?_)); refine W_seq fun K39 hK39 => ?_; refine W_block ?_
        refine W_loop (fun m E H => ∃ d k2, k2 + d = 10 ∧ k2 = m ∧ d ≤ 9 ∧ tdeep l.length k2 d = tdeep l.length 10 0 ∧ Sub E [(7, .slice (some ⟨ob, 0, none⟩) i i), (8, .slice pq l.length c2), (11, iV g), (14, iV d)] ∧ H = G ++ ((ob, .cells (List.toArray (out.map iV)) 3 (0, 0)) :: (cb, chO pl V.length capl (at_ + 1 + g)) :: D)) (m := _) (⟨0, 10, rfl, rfl, by decide, rfl, ⟨rfl, rfl, rfl, rfl, trivial⟩, rfl⟩) ?_
        rintro m E H ⟨d, k2, hkd, rfl, hd9, htd, hE, rfl⟩; refine W.env hE ?_; have hp9 : 2 ^ d ≤ 2 ^ 9 := Nat.pow_le_pow_right (by decide) hd9; refine W_seq fun K40 hK40 => ?_; refine W_seq fun K41 hK41 => ?_; refine W_region ?_; refine xm rfl rfl ?_; refine xp (n_shl rfl rfl rfl kI (by show _ ≤ 64; omega) (by omega)) rfl ?_; refine xm rfl rfl ?_; refine xp (v_len rfl underlying23 rfl) rfl ?_
        refine xp (n_lt rfl rfl rfl) rfl ?_; refine WO_nil (sq_n (hK41 _ _ ?_)); refine W_cond rfl (fun hc3 => ?_) (fun hc3 => ?_)
        · replace hc3 := of_decide_eq_true hc3; refine W_skip (sq_n (hK40 _ _ ?_)); refine W_block ?_; refine W_region ?_; refine xm rfl rfl ?_; refine xp (n_add rfl rfl rfl kI (by omega)) rfl ?_; refine xa rfl rfl ?_; refine WO_nil (bl_n (sq_n (?_))); obtain ⟨k2, rfl⟩ : ∃ j, k2 = j + 1 := ⟨k2 - 1, by omega⟩; rw [tdeep, if_pos (by omega)] at htd; have hd8 : d ≠ 9 := fun e => by subst e; omega
          exact ⟨k2, by omega, d + 1, k2, by omega, rfl, by omega, htd, ⟨rfl, rfl, rfl, rfl, trivial⟩, rfl⟩
        · replace hc3 := of_decide_eq_false hc3
          have htd2 : tdeep l.length 10 0 = d := by
            rw [← htd]
            cases k2 with
            | zero => rfl
            | succ k2 => rw [tdeep, if_neg (by omega)]
          rw [show (1 : Nat) * 2 ^ d = 2 ^ d by omega] at *; refine W_exit (sq_x (sq_x (bl_x (sq_n (hK39 _ _ ?_))))); refine W.keep [7,8,11,14] rfl ?_; refine W_seq fun K42 hK42 => ?_; refine W_region ?_; refine xm rfl rfl ?_; refine xp (n_shl rfl rfl rfl kI (by show _ ≤ 64; omega) (by omega)) rfl ?_; refine xm rfl rfl ?_; refine xp (v_len rfl underlying23 rfl) rfl ?_
          refine xp (n_sub rfl rfl rfl kI (by omega) (by omega)) rfl ?_; refine xa rfl rfl ?_; refine WO_nil (sq_n (hK42 _ _ ?_)); refine W.keep [7,8,11,14,15] rfl ?_; refine W_seq fun K43 hK43 => ?_; refine W_seq fun K44 hK44 => ?_; rw [Nat.one_mul]; obtain ⟨sh, hsh⟩ : ∃ sh, 2 ^ d - l.length = sh := ⟨_, rfl⟩; rw [hsh]; obtain ⟨of, hof⟩ : ∃ of, tfill (g + d) sh l 0 out = of := ⟨_, rfl⟩
          have hfin : (if g = 0 ∧ l.length = 1 then of.set (l.getD 0 0) 1 else of, at_ + 1 + g) = tree U V at_ most := by
            rw [← hstop]; unfold tree2; dsimp only; rw [htd2, hsh, hof]
          clear hstop htr; refine W_region ?_; refine xm rfl rfl ?_; refine xp (v_len rfl underlying23 rfl) rfl ?_; refine xm rfl rfl ?_; refine WO_nil (sq_n (hK44 _ _ ?_)); refine W_block ?_
          refine W_loop (fun m E H => ∃ s ou, s ≤ l.length ∧ m = l.length - s ∧ tfill (g + d) sh (l.drop s) s ou = of ∧ ou.length = i ∧ Sub E [(7, .slice (some ⟨ob, 0, none⟩) i i), (8, .slice pq l.length c2), (11, iV g), (14, iV d), (15, iV sh), (85, .slice pq l.length c2), (86, iV l.length), (87, iV s)] ∧ H = G ++ ((ob, .cells (List.toArray (ou.map iV)) 3 (0, 0)) :: (cb, chO pl V.length capl (at_ + 1 + g)) :: D)) (m := _) (⟨0, out, by omega, rfl, hof, hol, ⟨rfl, rfl, rfl, rfl, rfl, rfl, rfl, rfl, trivial⟩, rfl⟩) ?_
          rintro m E H ⟨s, ou, hs, rfl, htf, hou, hE, rfl⟩; refine W.env hE ?_; refine W_seq fun K45 hK45 => ?_; refine W_region ?_; refine xp (n_lt rfl rfl rfl) rfl ?_; refine WO_nil (sq_n (hK45 _ _ ?_)); refine W_seq fun K46 hK46 => ?_; refine W_cond rfl (fun hc4 => ?_) (fun hc4 => ?_)
          · replace hc4 := of_decide_eq_true hc4; obtain ⟨b3, off3, c3, ty3, fz3, r3, rfl, hat3, hcc3⟩ := hdl (by intro e; subst e; simp at hc4); have hat4 := AtH.appl (D := (ob, .cells (List.toArray (ou.map iV)) 3 (0, 0)) :: (cb, chO pl V.length capl (at_ + 1 + g)) :: D) hat3; have hgj : l.getD s 0 < i := by rw [getD_in hc4]; exact hst.lt _ (List.getElem_mem hc4)
            refine W_skip (sq_n (hK46 _ _ ?_))
            refine W_seq_mid (fun E H => Sub E [(7, .slice (some ⟨ob, 0, none⟩) i i), (8, .slice (some ⟨b3, off3, none⟩) l.length c2), (11, iV g), (14, iV d), (15, iV sh), (85, .slice (some ⟨b3, off3, none⟩) l.length c2), (86, iV l.length), (87, iV s)] ∧ H = G ++ ((ob, .cells (List.toArray ((ou.set (l.getD s 0) (if s < sh then g + d - 1 else g + d)).map iV)) 3 (0, 0)) :: (cb, chO pl V.length capl (at_ + 1 + g)) :: D)) ?_ ?_
            · skip
              refine W_block ?_; refine W_seq fun K48 hK48 => ?_; refine W_region ?_; refine xm rfl rfl ?_; refine xp (v_ixs rfl underlying23 sizeOf3 rfl rfl (by omega)) rfl ?_; refine xv (v_ld rfl rfl isAgg3 (v := iV (l.getD s 0)) (by rw [hcc3 s hc4, getD_in hc4])) rfl ?_; refine xa rfl rfl ?_; refine xa rfl rfl ?_; refine WO_nil (sq_n (hK48 _ _ ?_)); refine W_seq fun K49 hK49 => ?_; refine W_region ?_
              refine xm rfl rfl ?_; refine xm rfl rfl ?_; refine xm rfl rfl ?_; refine xm rfl rfl ?_; refine xp (n_add rfl rfl rfl kI (by omega)) rfl ?_; refine xp (v_ixs rfl underlying23 sizeOf3 rfl rfl (by omega)) rfl ?_; refine wst' rfl rfl rfl sizeOf3 rfl (List.map_set (f := iV)).symm (by rw [List.length_map]; omega) rfl rfl ?_; refine WO_nil (sq_n (hK49 _ _ ?_)); refine W_seq fun K50 hK50 => ?_
              refine W_region ?_; refine xm rfl rfl ?_; refine xm rfl rfl ?_; refine xp (n_lt rfl rfl rfl) rfl ?_; refine WO_nil (sq_n (hK50 _ _ ?_)); refine W_cond rfl (fun hc5 => ?_) (fun hc5 => ?_)
              · replace hc5 := of_decide_eq_true hc5; have hos : (ou.set (l.getD s 0) (g + d)).length = i := by rw [List.length_set]; exact hou
                have hog : (ou.set (l.getD s 0) (g + d)).getD (l.getD s 0) 0 = g + d := by rw [getD_set (by omega), if_pos rfl]
                have hd1 : 1 ≤ d := by
                  rcases Nat.eq_zero_or_pos d with h0 | h0
                  · subst h0; have : 2 ^ 0 = 1 := rfl; omega
                  · exact h0
                refine W_region ?_; refine xm rfl rfl ?_; refine xm rfl rfl ?_; refine xp (v_ixs rfl underlying23 sizeOf3 rfl rfl (by omega)) rfl ?_; refine xv (v_ld rfl rfl isAgg3 (v := iV (g + d)) (by rw [ints_at (by omega), hog])) rfl ?_; refine xp (n_sub rfl rfl rfl kI (by omega) (by omega)) rfl ?_; refine xp (v_ixs rfl underlying23 sizeOf3 rfl rfl (by omega)) rfl ?_
                refine wst' rfl rfl rfl sizeOf3 rfl (by rw [← List.map_set, List.set_set]) (by rw [List.length_map]; omega) rfl rfl ?_; refine WO_nil (bl_n (sq_n (?_))); first
                | (have hq : s < sh := hc5; rw [if_pos hq]; exact ⟨⟨rfl, rfl, rfl, rfl, rfl, rfl, rfl, rfl, trivial⟩, rfl⟩)
                | (have hq : ¬ s < sh := hc5; rw [if_neg hq]; exact ⟨⟨rfl, rfl, rfl, rfl, rfl, rfl, rfl, rfl, trivial⟩, rfl⟩)
              · replace hc5 := of_decide_eq_false hc5; refine W_skip (bl_n (sq_n (?_))); first
                | (have hq : s < sh := hc5; rw [if_pos hq]; exact ⟨⟨rfl, rfl, rfl, rfl, rfl, rfl, rfl, rfl, trivial⟩, rfl⟩)
                | (have hq : ¬ s < sh := hc5; rw [if_neg hq]; exact ⟨⟨rfl, rfl, rfl, rfl, rfl, rfl, rfl, rfl, trivial⟩, rfl⟩)
            · rintro E H ⟨hE, rfl⟩; refine W.env hE ?_; refine W_region ?_; refine xp (n_add rfl rfl rfl kI (by omega)) rfl ?_; refine xm rfl rfl ?_; refine WO_nil (sq_n (?_)); rw [List.drop_eq_getElem_cons hc4, tfill, ← getD_in (d := 0) hc4] at htf; exact ⟨l.length - (s + 1), by omega, s + 1, _, by omega, rfl, htf, by rw [List.length_set]; exact hou, ⟨rfl, rfl, rfl, rfl, rfl, rfl, rfl, rfl, trivial⟩, rfl⟩
          · replace hc4 := of_decide_eq_false hc4; obtain rfl : s = l.length := by omega
            rw [List.drop_length, tfill] at htf; subst htf; refine W_exit (sq_x (sq_x (bl_x (sq_n (hK43 _ _ ?_))))); refine W.keep [7,8,11] rfl ?_; refine W_seq fun K51 hK51 => ?_; refine W_seq fun K52 hK52 => ?_; by_cases hg0 : g = 0
            · skip
              by_cases hl1 : l.length = 1
              · rw [if_pos ⟨hg0, hl1⟩] at hfin; obtain ⟨b3, off3, c3, ty3, fz3, r3, rfl, hat3, hcc3⟩ := hdl (by intro e; subst e; simp at hl1); have hat4 := AtH.appl (D := (ob, .cells (List.toArray (ou.map iV)) 3 (0, 0)) :: (cb, chO pl V.length capl (at_ + 1 + g)) :: D) hat3; have hl01 : 0 < l.length := by omega
                have hgj : l.getD 0 0 < i := by rw [getD_in hl01]; exact hst.lt _ (List.getElem_mem hl01)
                refine W_region ?_; refine xm rfl rfl ?_; refine xp (v_eq rfl rfl rfl (dT (by omega))) rfl ?_; refine xm rfl rfl ?_; refine xm rfl rfl ?_; refine xp (v_len rfl underlying23 rfl) rfl ?_; refine xp (v_eq rfl rfl rfl (dT (by omega))) rfl ?_; refine xp (v_pt rfl rfl rfl) rfl ?_; refine WO_nil (sq_n (hK52 _ _ ?_)); refine W.keep [7,8,114] rfl ?_; refine W_cond_t rfl ?_; refine W_region ?_
                refine xm rfl rfl ?_; refine xm rfl rfl ?_; refine xp (v_ixs rfl underlying23 sizeOf3 rfl rfl (by omega)) rfl ?_; refine xv (v_ld rfl rfl isAgg3 (v := iV (l.getD 0 0)) (by rw [hcc3 0 hl01, getD_in hl01])) rfl ?_; refine xp (v_ixs rfl underlying23 sizeOf3 rfl rfl (by omega)) rfl ?_; refine wst' rfl rfl rfl sizeOf3 rfl (List.map_set (f := iV) (a := 1)).symm (by rw [List.length_map]; omega) rfl rfl ?_
                refine WO_nil (sq_n (hK51 _ _ ?_)); refine W.keep [7] rfl ?_; refine W_seq fun K53 hK53 => ?_; refine W_region ?_; refine xm rfl rfl ?_; refine xa rfl rfl ?_; refine WO_nil (sq_n (hK53 _ _ ?_)); refine W_ret (ret_of (v := _) rfl ?_); rw [← hfin]; exact ⟨ob, G, rfl, rfl⟩
              · rw [if_neg (fun h => hl1 h.2)] at hfin; refine W_region ?_; refine xm rfl rfl ?_; refine xp (v_eq rfl rfl rfl (dT (by omega))) rfl ?_; refine xm rfl rfl ?_; refine xm rfl rfl ?_; refine xp (v_len rfl underlying23 rfl) rfl ?_; refine xp (v_eq rfl rfl rfl (dF (by omega))) rfl ?_; refine xp (v_pt rfl rfl rfl) rfl ?_; refine WO_nil (sq_n (hK52 _ _ ?_)); refine W.keep [7,8,114] rfl ?_
                refine W_cond_f rfl ?_; refine W_skip (sq_n (hK51 _ _ ?_)); refine W_seq fun K54 hK54 => ?_; refine W_region ?_; refine xm rfl rfl ?_; refine xa rfl rfl ?_; refine WO_nil (sq_n (hK54 _ _ ?_)); refine W.keep [6] rfl ?_; refine W_ret (ret_of (v := _) rfl ?_); rw [← hfin]; exact ⟨ob, G, rfl, rfl⟩
            · rw [if_neg (fun h => hg0 h.1)] at hfin; refine W_region ?_; refine xm rfl rfl ?_; refine xp (v_eq rfl rfl rfl (dF (by omega))) rfl ?_; refine xm rfl rfl ?_; refine xno rfl ?_; refine xno rfl ?_; refine xno rfl ?_; refine xp (v_pf rfl rfl rfl) rfl ?_; refine WO_nil (sq_n (hK52 _ _ ?_)); refine W.keep [7,8,114] rfl ?_; refine W_cond_f rfl ?_; refine W_skip (sq_n (hK51 _ _ ?_))
              refine W_seq fun K55 hK55 => ?_; refine W_region ?_; refine xm rfl rfl ?_; refine xa rfl rfl ?_; refine WO_nil (sq_n (hK55 _ _ ?_)); refine W.keep [6] rfl ?_; refine W_ret (ret_of (v := _) rfl ?_); rw [← hfin]; exact ⟨ob, G, rfl, rfl⟩
    · have hstop : tree2 (out, l, g, at_ + 1 + g) = tree U V at_ most := by
        obtain rfl : k = 0 := by omega
        exact htr
      refine W_region ?_; refine xm rfl rfl ?_; refine xp (v_gt rfl rfl rfl (dF (by omega))) rfl ?_; refine xm rfl rfl ?_; refine xno rfl ?_; refine xno rfl ?_; refine xno rfl ?_; refine xp (v_pf rfl rfl rfl) rfl ?_; refine xm rfl rfl ?_; refine xno rfl ?_; refine xno rfl ?_; refine xno rfl ?_; refine xno rfl ?_; refine xp (v_pf rfl rfl rfl) rfl ?_; refine WO_nil (sq_n (hK15 _ _ ?_)); refine W_cond_f rfl ?_
      refine W_exit (sq_x (sq_x (bl_x (sq_n (hK12 _ _ ?_))))); refine W.keep [7,8,11] rfl ?_; refine W_seq fun K56 hK56 => ?_; refine W_region ?_; refine xa rfl rfl ?_; refine WO_nil (sq_n (hK56 _ _ ?_)); refine W_seq fun K57 hK57 => ?_; refine W_block ?_
      refine W_loop (fun m E H => ∃ d k2, k2 + d = 10 ∧ k2 = m ∧ d ≤ 9 ∧ tdeep l.length k2 d = tdeep l.length 10 0 ∧ Sub E [(7, .slice (some ⟨ob, 0, none⟩) i i), (8, .slice pq l.length c2), (11, iV g), (14, iV d)] ∧ H = G ++ ((ob, .cells (List.toArray (out.map iV)) 3 (0, 0)) :: (cb, chO pl V.length capl (at_ + 1 + g)) :: D)) (m := _) (⟨0, 10, rfl, rfl, by decide, rfl, ⟨rfl, rfl, rfl, rfl, trivial⟩, rfl⟩) ?_
      rintro m E H ⟨d, k2, hkd, rfl, hd9, htd, hE, rfl⟩; refine W.env hE ?_; have hp9 : 2 ^ d ≤ 2 ^ 9 := Nat.pow_le_pow_right (by decide) hd9; refine W_seq fun K58 hK58 => ?_; refine W_seq fun K59 hK59 => ?_; refine W_region ?_; refine xm rfl rfl ?_; refine xp (n_shl rfl rfl rfl kI (by show _ ≤ 64; omega) (by omega)) rfl ?_; refine xm rfl rfl ?_; refine xp (v_len rfl underlying23 rfl) rfl ?_
      refine xp (n_lt rfl rfl rfl) rfl ?_; refine WO_nil (sq_n (hK59 _ _ ?_)); refine W_cond rfl (fun hc3 => ?_) (fun hc3 => ?_)
      · replace hc3 := of_decide_eq_true hc3; refine W_skip (sq_n (hK58 _ _ ?_)); refine W_block ?_; refine W_region ?_; refine xm rfl rfl ?_; refine xp (n_add rfl rfl rfl kI (by omega)) rfl ?_; refine xa rfl rfl ?_; refine WO_nil (bl_n (sq_n (?_))); obtain ⟨k2, rfl⟩ : ∃ j, k2 = j + 1 := ⟨k2 - 1, by omega⟩; rw [tdeep, if_pos (by omega)] at htd; have hd8 : d ≠ 9 := fun e => by subst e; omega
        exact ⟨k2, by omega, d + 1, k2, by omega, rfl, by omega, htd, ⟨rfl, rfl, rfl, rfl, trivial⟩, rfl⟩
      · replace hc3 := of_decide_eq_false hc3
        have htd2 : tdeep l.length 10 0 = d := by
          rw [← htd]
          cases k2 with
          | zero => rfl
          | succ k2 => rw [tdeep, if_neg (by omega)]
        rw [show (1 : Nat) * 2 ^ d = 2 ^ d by omega] at *; refine W_exit (sq_x (sq_x (bl_x (sq_n (hK57 _ _ ?_))))); refine W.keep [7,8,11,14] rfl ?_; refine W_seq fun K60 hK60 => ?_; refine W_region ?_; refine xm rfl rfl ?_; refine xp (n_shl rfl rfl rfl kI (by show _ ≤ 64; omega) (by omega)) rfl ?_; refine xm rfl rfl ?_; refine xp (v_len rfl underlying23 rfl) rfl ?_
        refine xp (n_sub rfl rfl rfl kI (by omega) (by omega)) rfl ?_; refine xa rfl rfl ?_; refine WO_nil (sq_n (hK60 _ _ ?_)); refine W.keep [7,8,11,14,15] rfl ?_; refine W_seq fun K61 hK61 => ?_; refine W_seq fun K62 hK62 => ?_; rw [Nat.one_mul]; obtain ⟨sh, hsh⟩ : ∃ sh, 2 ^ d - l.length = sh := ⟨_, rfl⟩; rw [hsh]; obtain ⟨of, hof⟩ : ∃ of, tfill (g + d) sh l 0 out = of := ⟨_, rfl⟩
        have hfin : (if g = 0 ∧ l.length = 1 then of.set (l.getD 0 0) 1 else of, at_ + 1 + g) = tree U V at_ most := by
          rw [← hstop]; unfold tree2; dsimp only; rw [htd2, hsh, hof]
        clear hstop htr; refine W_region ?_; refine xm rfl rfl ?_; refine xp (v_len rfl underlying23 rfl) rfl ?_; refine xm rfl rfl ?_; refine WO_nil (sq_n (hK62 _ _ ?_)); refine W_block ?_
        refine W_loop (fun m E H => ∃ s ou, s ≤ l.length ∧ m = l.length - s ∧ tfill (g + d) sh (l.drop s) s ou = of ∧ ou.length = i ∧ Sub E [(7, .slice (some ⟨ob, 0, none⟩) i i), (8, .slice pq l.length c2), (11, iV g), (14, iV d), (15, iV sh), (85, .slice pq l.length c2), (86, iV l.length), (87, iV s)] ∧ H = G ++ ((ob, .cells (List.toArray (ou.map iV)) 3 (0, 0)) :: (cb, chO pl V.length capl (at_ + 1 + g)) :: D)) (m := _) (⟨0, out, by omega, rfl, hof, hol, ⟨rfl, rfl, rfl, rfl, rfl, rfl, rfl, rfl, trivial⟩, rfl⟩) ?_
        rintro m E H ⟨s, ou, hs, rfl, htf, hou, hE, rfl⟩; refine W.env hE ?_; refine W_seq fun K63 hK63 => ?_; refine W_region ?_; refine xp (n_lt rfl rfl rfl) rfl ?_; refine WO_nil (sq_n (hK63 _ _ ?_)); refine W_seq fun K64 hK64 => ?_; refine W_cond rfl (fun hc4 => ?_) (fun hc4 => ?_)
        · replace hc4 := of_decide_eq_true hc4; obtain ⟨b3, off3, c3, ty3, fz3, r3, rfl, hat3, hcc3⟩ := hdl (by intro e; subst e; simp at hc4); have hat4 := AtH.appl (D := (ob, .cells (List.toArray (ou.map iV)) 3 (0, 0)) :: (cb, chO pl V.length capl (at_ + 1 + g)) :: D) hat3; have hgj : l.getD s 0 < i := by rw [getD_in hc4]; exact hst.lt _ (List.getElem_mem hc4)
          refine W_skip (sq_n (hK64 _ _ ?_))
          refine W_seq_mid (fun E H => Sub E [(7, .slice (some ⟨ob, 0, none⟩) i i), (8, .slice (some ⟨b3, off3, none⟩) l.length c2), (11, iV g), (14, iV d), (15, iV sh), (85, .slice (some ⟨b3, off3, none⟩) l.length c2), (86, iV l.length), (87, iV s)] ∧ H = G ++ ((ob, .cells (List.toArray ((ou.set (l.getD s 0) (if s < sh then g + d - 1 else g + d)).map iV)) 3 (0, 0)) :: (cb, chO pl V.length capl (at_ + 1 + g)) :: D)) ?_ ?_
          · skip
            refine W_block ?_; refine W_seq fun K66 hK66 => ?_; refine W_region ?_; refine xm rfl rfl ?_; refine xp (v_ixs rfl underlying23 sizeOf3 rfl rfl (by omega)) rfl ?_; refine xv (v_ld rfl rfl isAgg3 (v := iV (l.getD s 0)) (by rw [hcc3 s hc4, getD_in hc4])) rfl ?_; refine xa rfl rfl ?_; refine xa rfl rfl ?_; refine WO_nil (sq_n (hK66 _ _ ?_)); refine W_seq fun K67 hK67 => ?_; refine W_region ?_
            refine xm rfl rfl ?_; refine xm rfl rfl ?_; refine xm rfl rfl ?_; refine xm rfl rfl ?_; refine xp (n_add rfl rfl rfl kI (by omega)) rfl ?_; refine xp (v_ixs rfl underlying23 sizeOf3 rfl rfl (by omega)) rfl ?_; refine wst' rfl rfl rfl sizeOf3 rfl (List.map_set (f := iV)).symm (by rw [List.length_map]; omega) rfl rfl ?_; refine WO_nil (sq_n (hK67 _ _ ?_)); refine W_seq fun K68 hK68 => ?_; refine W_region ?_
            refine xm rfl rfl ?_; refine xm rfl rfl ?_; refine xp (n_lt rfl rfl rfl) rfl ?_; refine WO_nil (sq_n (hK68 _ _ ?_)); refine W_cond rfl (fun hc5 => ?_) (fun hc5 => ?_)
            · replace hc5 := of_decide_eq_true hc5; have hos : (ou.set (l.getD s 0) (g + d)).length = i := by rw [List.length_set]; exact hou
              have hog : (ou.set (l.getD s 0) (g + d)).getD (l.getD s 0) 0 = g + d := by rw [getD_set (by omega), if_pos rfl]
              have hd1 : 1 ≤ d := by
                rcases Nat.eq_zero_or_pos d with h0 | h0
                · subst h0; have : 2 ^ 0 = 1 := rfl; omega
                · exact h0
              refine W_region ?_; refine xm rfl rfl ?_; refine xm rfl rfl ?_; refine xp (v_ixs rfl underlying23 sizeOf3 rfl rfl (by omega)) rfl ?_; refine xv (v_ld rfl rfl isAgg3 (v := iV (g + d)) (by rw [ints_at (by omega), hog])) rfl ?_; refine xp (n_sub rfl rfl rfl kI (by omega) (by omega)) rfl ?_; refine xp (v_ixs rfl underlying23 sizeOf3 rfl rfl (by omega)) rfl ?_
              refine wst' rfl rfl rfl sizeOf3 rfl (by rw [← List.map_set, List.set_set]) (by rw [List.length_map]; omega) rfl rfl ?_; refine WO_nil (bl_n (sq_n (?_))); first
              | (have hq : s < sh := hc5; rw [if_pos hq]; exact ⟨⟨rfl, rfl, rfl, rfl, rfl, rfl, rfl, rfl, trivial⟩, rfl⟩)
              | (have hq : ¬ s < sh := hc5; rw [if_neg hq]; exact ⟨⟨rfl, rfl, rfl, rfl, rfl, rfl, rfl, rfl, trivial⟩, rfl⟩)
            · replace hc5 := of_decide_eq_false hc5; refine W_skip (bl_n (sq_n (?_))); first
              | (have hq : s < sh := hc5; rw [if_pos hq]; exact ⟨⟨rfl, rfl, rfl, rfl, rfl, rfl, rfl, rfl, trivial⟩, rfl⟩)
              | (have hq : ¬ s < sh := hc5; rw [if_neg hq]; exact ⟨⟨rfl, rfl, rfl, rfl, rfl, rfl, rfl, rfl, trivial⟩, rfl⟩)
          · rintro E H ⟨hE, rfl⟩; refine W.env hE ?_; refine W_region ?_; refine xp (n_add rfl rfl rfl kI (by omega)) rfl ?_; refine xm rfl rfl ?_; refine WO_nil (sq_n (?_)); rw [List.drop_eq_getElem_cons hc4, tfill, ← getD_in (d := 0) hc4] at htf; exact ⟨l.length - (s + 1), by omega, s + 1, _, by omega, rfl, htf, by rw [List.length_set]; exact hou, ⟨rfl, rfl, rfl, rfl, rfl, rfl, rfl, rfl, trivial⟩, rfl⟩
        · replace hc4 := of_decide_eq_false hc4; obtain rfl : s = l.length := by omega
          rw [List.drop_length, tfill] at htf; subst htf; refine W_exit (sq_x (sq_x (bl_x (sq_n (hK61 _ _ ?_))))); refine W.keep [7,8,11] rfl ?_; refine W_seq fun K69 hK69 => ?_; refine W_seq fun K70 hK70 => ?_; by_cases hg0 : g = 0
          · skip
            by_cases hl1 : l.length = 1
            · rw [if_pos ⟨hg0, hl1⟩] at hfin; obtain ⟨b3, off3, c3, ty3, fz3, r3, rfl, hat3, hcc3⟩ := hdl (by intro e; subst e; simp at hl1); have hat4 := AtH.appl (D := (ob, .cells (List.toArray (ou.map iV)) 3 (0, 0)) :: (cb, chO pl V.length capl (at_ + 1 + g)) :: D) hat3; have hl01 : 0 < l.length := by omega
              have hgj : l.getD 0 0 < i := by rw [getD_in hl01]; exact hst.lt _ (List.getElem_mem hl01)
              refine W_region ?_; refine xm rfl rfl ?_; refine xp (v_eq rfl rfl rfl (dT (by omega))) rfl ?_; refine xm rfl rfl ?_; refine xm rfl rfl ?_; refine xp (v_len rfl underlying23 rfl) rfl ?_; refine xp (v_eq rfl rfl rfl (dT (by omega))) rfl ?_; refine xp (v_pt rfl rfl rfl) rfl ?_; refine WO_nil (sq_n (hK70 _ _ ?_)); refine W.keep [7,8,114] rfl ?_; refine W_cond_t rfl ?_; refine W_region ?_
              refine xm rfl rfl ?_; refine xm rfl rfl ?_; refine xp (v_ixs rfl underlying23 sizeOf3 rfl rfl (by omega)) rfl ?_; refine xv (v_ld rfl rfl isAgg3 (v := iV (l.getD 0 0)) (by rw [hcc3 0 hl01, getD_in hl01])) rfl ?_; refine xp (v_ixs rfl underlying23 sizeOf3 rfl rfl (by omega)) rfl ?_; refine wst' rfl rfl rfl sizeOf3 rfl (List.map_set (f := iV) (a := 1)).symm (by rw [List.length_map]; omega) rfl rfl ?_
              refine WO_nil (sq_n (hK69 _ _ ?_)); refine W.keep [7] rfl ?_; refine W_seq fun K71 hK71 => ?_; refine W_region ?_; refine xm rfl rfl ?_; refine xa rfl rfl ?_; refine WO_nil (sq_n (hK71 _ _ ?_)); refine W_ret (ret_of (v := _) rfl ?_); rw [← hfin]; exact ⟨ob, G, rfl, rfl⟩
            · rw [if_neg (fun h => hl1 h.2)] at hfin; refine W_region ?_; refine xm rfl rfl ?_; refine xp (v_eq rfl rfl rfl (dT (by omega))) rfl ?_; refine xm rfl rfl ?_; refine xm rfl rfl ?_; refine xp (v_len rfl underlying23 rfl) rfl ?_; refine xp (v_eq rfl rfl rfl (dF (by omega))) rfl ?_; refine xp (v_pt rfl rfl rfl) rfl ?_; refine WO_nil (sq_n (hK70 _ _ ?_)); refine W.keep [7,8,114] rfl ?_; refine W_cond_f rfl ?_
              refine W_skip (sq_n (hK69 _ _ ?_)); refine W_seq fun K72 hK72 => ?_; refine W_region ?_; refine xm rfl rfl ?_; refine xa rfl rfl ?_; refine WO_nil (sq_n (hK72 _ _ ?_)); refine W.keep [6] rfl ?_; refine W_ret (ret_of (v := _) rfl ?_); rw [← hfin]; exact ⟨ob, G, rfl, rfl⟩
          · rw [if_neg (fun h => hg0 h.1)] at hfin; refine W_region ?_; refine xm rfl rfl ?_; refine xp (v_eq rfl rfl rfl (dF (by omega))) rfl ?_; refine xm rfl rfl ?_; refine xno rfl ?_; refine xno rfl ?_; refine xno rfl ?_; refine xp (v_pf rfl rfl rfl) rfl ?_; refine WO_nil (sq_n (hK70 _ _ ?_)); refine W.keep [7,8,114] rfl ?_; refine W_cond_f rfl ?_; refine W_skip (sq_n (hK69 _ _ ?_))
            refine W_seq fun K73 hK73 => ?_; refine W_region ?_; refine xm rfl rfl ?_; refine xa rfl rfl ?_; refine WO_nil (sq_n (hK73 _ _ ?_)); refine W.keep [6] rfl ?_; refine W_ret (ret_of (v := _) rfl ?_); rw [← hfin]; exact ⟨ob, G, rfl, rfl⟩
end
end Go.Proofs.YtpbahgddoamhgaaGreatDoor
