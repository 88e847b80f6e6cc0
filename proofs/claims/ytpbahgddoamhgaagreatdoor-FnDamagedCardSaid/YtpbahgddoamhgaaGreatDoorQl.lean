/- Part 12 of 12 of the proof: the executor, the walks and the plain laws, in build order. -/
import Derived.Test.YtpbahgddoamhgaaGreatDoorQk
import Derived.Test.YtpbahgddoamhgaaGreatDoorRows
import Derived.ProofKit
import Derived.OpenShut
import Derived.LaidLaws
import Derived.Lib.LaidTab
import Derived.Deep.DeepHandedRow
namespace Go.Proofs.YtpbahgddoamhgaaGreatDoor
open Go.Proofs.Tryz
open Go Sx Pu
set_option maxRecDepth 10000

theorem take_head (X : List Nat) (u : Nat) : ([120, 156] ++ X).take (2 + u) = [120, 156] ++ X.take u := by rw [Nat.add_comm]; rfl
section
variable {D : Hl} {p : Option Addr} {cap m : Nat} {S X : List Nat} {eof shb uex hdr dic chk : Addr}
theorem unpack_m (hm : S.length = m) (hG : GD D eof shb uex hdr dic chk) (hd : Dat p S D) (hS : ∀ x ∈ S, x < 256) (hl : S.length ≤ 135000000000) (hcap : m ≤ cap) :
    CallsL Tryz.prog 7 #[.slice p m cap, .slice none 0 0, .bool false, .slice none 0 0] D fun v H' =>
      ∃ p2 L c2 f rest G, v = .tuple #[.slice p2 L.length c2, iV f, iV rest] ∧ H' = G ++ D ∧ rest ≤ S.length ∧ f < 5 ∧ L.length ≤ c2 ∧ L.length < 2 ^ 47 ∧ (∀ c ∈ L, c < 256) ∧ DatV bV p2 L G ∧ ((f = 0 ∧ unz S L rest) ∨ (f ≠ 0 ∧ ∀ L rest, ¬ unz S L rest)) := by
  subst hm; exact unpack_spec hG hd hS hl hcap
set_option maxHeartbeats 1000000 in
theorem fnRaw_spec (hG : GD D eof shb uex hdr dic chk) (hd : Dat p X D) (hX : ∀ x ∈ X, x < 256) (hcap : X.length ≤ cap) :
    CallsL Tryz.prog 4 #[.slice p X.length cap] D fun v H' => v = .bool true ∧ ∃ Y, HSub H' D Y := by
  have hSl : ([120, 156] ++ X).length = X.length + 2 := by simp
  have hSb : ∀ x ∈ [120, 156] ++ X, x < 256 := fun x hx => (List.mem_append.1 hx).elim (fun h => by simp only [List.mem_cons, List.not_mem_nil, or_false] at h; omega) (hX x); refine CallsL_of func4 rfl ntmps4 rfl ?_
  try dsimp only [initE, Nat.zero_add]
  refine W_seq fun K1 hK1 => ?_; refine W_region ?_; refine xa rfl rfl ?_; refine WO_nil (sq_n (hK1 _ _ ?_)); refine W_seq fun K2 hK2 => ?_; refine W_seq fun K3 hK3 => ?_; refine W_region ?_; refine xm rfl rfl ?_; refine xp (v_len rfl underlying22 rfl) rfl ?_; refine xp (n_gt rfl rfl rfl) rfl ?_; refine WO_nil (sq_n (hK3 _ _ ?_)); refine W_cond rfl (fun hc0 => ?_) (fun hc0 => ?_)
  · replace hc0 := of_decide_eq_true hc0; refine W_seq fun K4 hK4 => ?_; refine W_region ?_; refine xa rfl rfl ?_; refine WO_nil (sq_n (hK4 _ _ ?_)); refine W.keep [0,2] rfl ?_; refine W_ret (sq_r (ret_of (v := _) rfl ?_)); exact ⟨rfl, [], .all⟩
  · replace hc0 := of_decide_eq_false hc0; refine W_skip (sq_n (hK2 _ _ ?_)); refine W.keep [0,2] rfl ?_; refine W_seq fun K5 hK5 => ?_; refine W_region ?_; refine ws (v_bs (List.toArray [bV 120, bV 156]) 5 2 rfl rfl (by intro w; kernel_rfl)) rfl rfl rfl ?_; rintro _ _ ⟨bo, rfl, rfl, _⟩; refine xm rfl rfl ?_; refine wapp (bytes := 1) rfl underlying22 underlying22 sizeOf5 typeInfo5 rfl zeroValue5 rfl rfl rfl (OwnV.row (f := bV) (b := bo) (L := [120, 156])) rfl (hd.cons _) rfl (fun _ => rfl) (by simp only [List.length_cons, List.length_nil]; omega) (by simp only [List.length_cons, List.length_nil]; omega) rfl rfl rfl ?_; intro p1 c1 H1 hO1; have hdS := hO1.dat; have hcS := hO1.capl; refine xa rfl rfl ?_; refine WO_nil (sq_n (hK5 _ _ ?_)); refine W.keep [0,2,3] rfl ?_; refine W_seq fun K6 hK6 => ?_; rcases hri : rinflate X with _ | ⟨o, u⟩
    · refine W_region ?_; refine xm rfl rfl ?_; refine wc (e_c rfl rfl rfl call11) rfl rfl rfl (inflate_m (S := X) rfl hcap hd hX (by omega)) (.app .all) ?_; rintro v _ ⟨G, hv, rfl⟩; rw [hri] at hv; change v = .tuple #[.slice none 0 0, .int .i64 0, .bool false] at hv; subst hv; (try simp only [ap4]); refine xm rfl rfl ?_; refine xp (v_ex rfl rfl rfl) rfl ?_; refine xp (v_ex rfl rfl rfl) rfl ?_; refine xp (v_ex rfl rfl rfl) rfl ?_; refine xa rfl rfl ?_; refine xa rfl rfl ?_; refine xa rfl rfl ?_; refine WO_nil (sq_n (hK6 _ _ ?_)); refine W.keep [2,3,4,5,6] rfl ?_; refine W_seq fun K7 hK7 => ?_; refine W_seq fun K8 hK8 => ?_; refine W_region ?_; refine xm rfl rfl ?_; refine WO_nil (sq_n (hK8 _ _ ?_)); refine W_cond_f rfl ?_; refine W_skip (sq_n (hK7 _ _ ?_)); refine W_seq fun K9 hK9 => ?_; refine W_region ?_; refine xm rfl rfl ?_
      refine wc (e_c rfl rfl rfl call7) rfl rfl rfl (unpack_spec ((hG.app G).app H1) (hdS.appl (G ++ D)) hSb (Nat.le_trans (Nat.le_of_eq hSl) (by omega)) hcS) .all ?_; rintro _ _ ⟨p2, L, c2, f, rest, G2, rfl, rfl, h1, h2, h3, h4, h5, h6, hor⟩; obtain ⟨hf0, hno⟩ : f ≠ 0 ∧ ∀ L r, ¬ unz ([120, 156] ++ X) L r := hor.elim (fun h => absurd h.2 (raw_none hri _ _)) id; (try simp only [ap4]); refine xm rfl rfl ?_; refine xp (v_ex rfl rfl rfl) rfl ?_; refine xp (v_ex rfl rfl rfl) rfl ?_; refine xp (v_ex rfl rfl rfl) rfl ?_; refine xa rfl rfl ?_; refine xa rfl rfl ?_; refine xa rfl rfl ?_; refine WO_nil (sq_n (hK9 _ _ ?_)); refine W.keep [2,4,6,8,9] rfl ?_; refine W_seq fun K10 hK10 => ?_; refine W_seq fun K11 hK11 => ?_; refine W_region ?_; refine xm rfl rfl ?_; refine xp (v_not rfl rfl rfl) rfl ?_; refine WO_nil (sq_n (hK11 _ _ ?_)); refine W_cond_t rfl ?_; refine W_seq fun K12 hK12 => ?_
      refine W_region ?_; refine xm rfl rfl ?_; refine xp (v_ne rfl rfl rfl (dT (by omega))) rfl ?_; refine xm rfl rfl ?_; refine wc (e_c rfl rfl rfl call5) rfl rfl rfl (zlib0_spec (D := D)) (.app (.app (.app .all))) ?_; rintro _ _ ⟨pz, cz, Gz, rfl, hOz, rfl⟩; (try simp only [ap4]); refine wc (e_c rfl rfl rfl call9) rfl rfl rfl (reads_spec (hG.app Gz) (hOz.dat.appl D) (by decide) (by decide) hOz.capl z0_unz (by decide)) (.app (.app (.app .all))) ?_; rintro _ _ ⟨G3, rfl, rfl⟩; (try simp only [ap4]); refine xp (v_pt rfl rfl rfl) rfl ?_; refine xa rfl rfl ?_; refine WO_nil (sq_n (hK12 _ _ ?_)); refine W.keep [4,8,9,2] rfl ?_; refine W_ret (sq_r (ret_of (v := _) rfl ?_)); exact ⟨rfl, _, .app (.app (.app (.app (.app .all))))⟩
    · obtain ⟨hr1, hr2, hr3, hr4, hr5⟩ := rinflate_some hri; have hom : ∀ c ∈ o, c < 256 := hr2 ▸ rinf_mem hX _ _ _ _ (by simp); have hal := adler_lt o; refine W_region ?_; refine xm rfl rfl ?_; refine wc (e_c rfl rfl rfl call11) rfl rfl rfl (inflate_m (S := X) rfl hcap hd hX (by omega)) (.app .all) ?_; rintro v _ ⟨G, hv, rfl⟩; rw [hri] at hv; obtain ⟨p5, c5, hv, hdt⟩ := hv; subst hv; (try simp only [ap4]); refine xm rfl rfl ?_; refine xp (v_ex rfl rfl rfl) rfl ?_; refine xp (v_ex rfl rfl rfl) rfl ?_; refine xp (v_ex rfl rfl rfl) rfl ?_; refine xa rfl rfl ?_; refine xa rfl rfl ?_; refine xa rfl rfl ?_; refine WO_nil (sq_n (hK6 _ _ ?_)); refine W.keep [2,3,4,5,6] rfl ?_; refine W_seq fun K13 hK13 => ?_; refine W_seq fun K14 hK14 => ?_; refine W_region ?_; refine xm rfl rfl ?_; refine WO_nil (sq_n (hK14 _ _ ?_)); refine W_cond_t rfl ?_; refine W_seq fun K15 hK15 => ?_; refine W_region ?_
      refine xm rfl rfl ?_; refine wc (e_c rfl rfl rfl call12) rfl rfl rfl (adler_spec ((hdt.appl D).app H1) hom (by omega)) .all ?_; rintro _ Hx ⟨rfl, hHx⟩; rw [hHx]; (try simp only [ap4]); refine xa rfl rfl ?_; refine WO_nil (sq_n (hK15 _ _ ?_)); refine W.keep [2,3,4,5,6,7] rfl ?_; obtain ⟨bb, rest, rfl, hcl, hrl, rfl⟩ := hO1.elem (by simp); dsimp only [List.cons_append, List.nil_append]; refine W_region ?_; refine xm rfl rfl ?_; refine xm rfl rfl ?_; refine xp (n_add rfl rfl rfl kI (by omega)) rfl ?_; refine xm rfl rfl ?_; refine xp (n_add rfl rfl rfl kI (by omega)) rfl ?_; refine xp (v_slp rfl underlying22 sizeOf5 rfl (.some rfl) (.some rfl) .none (by omega) (by omega) (by omega) (by decide)) rfl ?_; refine xm rfl rfl ?_; refine xp (n_shr rfl rfl rfl (by decide)) rfl ?_; refine xp (n_cvm rfl underlying29 underlying5 rfl uB) rfl ?_; refine xm rfl rfl ?_
      refine xp (n_shr rfl rfl rfl (by decide)) rfl ?_; refine xp (n_cvm rfl underlying29 underlying5 rfl uB) rfl ?_; refine xm rfl rfl ?_; refine xp (n_shr rfl rfl rfl (by decide)) rfl ?_; refine xp (n_cvm rfl underlying29 underlying5 rfl uB) rfl ?_; refine xm rfl rfl ?_; refine xp (n_cvm rfl underlying29 underlying5 rfl uB) rfl ?_; refine ws (v_bs (List.toArray [bV (adler o / 2 ^ 24 % 256), bV (adler o / 2 ^ 16 % 256), bV (adler o / 2 ^ 8 % 256), bV (adler o % 256)]) 5 4 rfl rfl (by intro w; kernel_rfl)) rfl rfl rfl ?_; rintro _ _ ⟨b4, rfl, rfl, _⟩; rw [pmv_zero]
      refine ws (v_appf (bytes := 1) (m := 2 + u) (k := 4) (xs := ([120, 156] ++ X.take u).map bV) (ys := (be4 (adler o)).map bV) rfl underlying22 underlying22 sizeOf5 typeInfo5 rfl zeroValue5 rfl rfl rfl (take_head X u ▸ rdV_take (datV_cells.cons _) (by omega)) (rdV_take (T := be4 (adler o)) (k := 4) datV_row (Nat.le_refl _)) (by omega) (by omega)) rfl rfl rfl ?_; rintro v5 H5 h5; obtain ⟨b5, rest5, c6, rfl, hc6, rfl⟩ := h5.resolve_left (fun h => absurd h.1 (by decide)); rw [← List.map_append]; refine xa rfl rfl ?_; refine WO_nil (sq_n (hK13 _ _ ?_)); refine W.keep [2,4,6,3] rfl ?_; refine W_seq fun K16 hK16 => ?_; have hrw : (rawS X u (adler o)).length = 2 + u + 4 := by
        unfold rawS; simp only [List.length_append, List.length_cons, List.length_nil, List.length_take]; show 0 + 1 + 1 + min u X.length + 4 = _; omega
      have hrb : ∀ x ∈ rawS X u (adler o), x < 256 := fun x hx => (List.mem_append.1 hx).elim (fun h => (List.mem_append.1 h).elim (fun h => hSb x (List.mem_append_left _ h)) fun h => hX x (List.mem_of_mem_take h)) (be4_lt _ x); have hrs := raw_some hri; refine W_region ?_; refine xm rfl rfl ?_; refine wc (e_c rfl rfl rfl call7) rfl rfl rfl (unpack_m (S := rawS X u (adler o)) hrw ((((hG.app G).cons _).cons _).cons _) datV_cells hrb (by omega) hc6) .all ?_; rintro _ _ ⟨p2, L, c2, f, rest, G2, rfl, rfl, h1, h2, h3, h4, h5, h6, hor⟩; obtain ⟨rfl, hun⟩ : f = 0 ∧ unz (rawS X u (adler o)) L rest := hor.elim id fun h => absurd hrs (h.2 _ _); obtain ⟨e1, e2⟩ := unz_uniq hrs hun; subst e1 e2; (try simp only [ap4]); refine xm rfl rfl ?_; refine xp (v_ex rfl rfl rfl) rfl ?_; refine xp (v_ex rfl rfl rfl) rfl ?_; refine xp (v_ex rfl rfl rfl) rfl ?_; refine xa rfl rfl ?_; refine xa rfl rfl ?_
      refine xa rfl rfl ?_; refine WO_nil (sq_n (hK16 _ _ ?_)); refine W.keep [2,4,6,8,9] rfl ?_; refine W_seq fun K17 hK17 => ?_; refine W_seq fun K18 hK18 => ?_; refine W_region ?_; refine xm rfl rfl ?_; refine xp (v_not rfl rfl rfl) rfl ?_; refine WO_nil (sq_n (hK18 _ _ ?_)); refine W_cond_f rfl ?_; refine W_skip (sq_n (hK17 _ _ ?_)); refine W.keep [2,4,8,9] rfl ?_; refine W_seq fun K19 hK19 => ?_; refine W_region ?_; refine xm rfl rfl ?_; refine xp (v_eq rfl rfl rfl (dT (by rfl))) rfl ?_; refine xm rfl rfl ?_; refine xm rfl rfl ?_; refine xm rfl rfl ?_; refine wc (e_c rfl rfl rfl call10) rfl rfl rfl (same_spec (L := o) rfl rfl (h6.appl _) (((((hdt.appl D).cons _).cons _).cons _).app G2)) .all ?_; rintro _ Hx ⟨rfl, hHx⟩; rw [hHx]; (try simp only [ap4]); refine xp (v_pt rfl rfl rfl) rfl ?_; refine xa rfl rfl ?_; refine WO_nil (sq_n (hK19 _ _ ?_)); refine W.keep [2] rfl ?_
      refine W_ret (ret_of (v := _) rfl ?_); exact ⟨rfl, _, .app (.skip (.skip (.skip (.app .all))))⟩
end
end Go.Proofs.YtpbahgddoamhgaaGreatDoor
namespace Go.Proofs.YtpbahgddoamhgaaGreatDoor
open Go.Proofs.Tryz
open Go Sx Pu
set_option maxRecDepth 10000

namespace Pu
theorem zs_ok {tb K : Nat} {A : List Nat} {V : List Int} (hA : ∀ c ∈ A, c < 256) (htb : tb < 256) (hl : A.length ≤ 2147483647) : (∀ c ∈ zs tb A V K, c < 256) ∧ 6 ≤ (zs tb A V K).length ∧ (zs tb A V K).length ≤ 135000000000 := by
  obtain ⟨h1, _⟩ := dloop_ok hA K V 0 0 ([], 0) (Nat.zero_le _) ⟨Nat.le_refl _, by decide, by simp⟩; have h2 := dloop_bits hA K V 0 0 ([], 0) (Nat.zero_le _) ⟨Nat.le_refl _, by decide, by simp⟩ (Nat.zero_le _); dsimp only at h2; have h3 : dW A V 0 0 ≤ 655707686 := by
    have h4 : (A.length - 0) / 65535 ≤ 32768 := by omega
    by_cases hh : V = [] ∧ 0 = 0
    · rw [dW_zero hh]; generalize (A.length - 0) / 65535 = q at *; omega
    · rw [dW_pos hh]; generalize (A.length - 0) / 65535 = q at *; omega
  have hb4 : (be4 (adler A)).length = 4 := rfl; unfold zs; refine ⟨fun c hc => ?_, ?_, ?_⟩
  · rcases List.mem_append.1 hc with h | h
    · rcases List.mem_append.1 h with h | h
      · simp only [List.mem_cons, List.not_mem_nil, or_false] at h; omega
      · exact h1 c h
    · exact be4_lt _ c h
  · simp only [List.length_append, List.length_cons, List.length_nil, hb4]; omega
  · simp only [List.length_append, List.length_cons, List.length_nil, hb4]; omega
theorem hd2_low1 : ∀ b, b < 94 → 64 * 1 ≤ b → ¬ hd2 120 b := by
  intro b hb h2; have : ∀ i, i < 30 → ¬ hd2 120 (64 + i) := by decide
  have := this (b - 64) (by omega); rwa [show 64 + (b - 64) = b by omega] at this
end Pu
section
variable {D : Hl} {p pw pp pb : Option Addr} {cap capw capp capb : Nat} {A Qb : List Nat} {V Pl : List Int} {eof shb uex hdr dic chk : Addr}
theorem fnDamaged_big (h : 2147483647 < A.length ∨ 2147483647 < V.length ∨ 2147483647 < Pl.length ∨ 2147483647 < Qb.length) :
    CallsL Tryz.prog 3 #[.slice p A.length cap, .slice pw V.length capw, .slice pp Pl.length capp, .slice pb Qb.length capb] D fun v H' => v = .bool true ∧ ∃ Y, HSub H' D Y := by
  refine CallsL_of func3 rfl ntmps3 rfl ?_
  try dsimp only [initE, Nat.zero_add]
  refine W_seq fun K1 hK1 => ?_; refine W_region ?_; refine xa rfl rfl ?_; refine WO_nil (sq_n (hK1 _ _ ?_)); refine W_seq fun K2 hK2 => ?_; refine W_seq fun K3 hK3 => ?_; by_cases b0 : 2147483647 < A.length
  · refine W_region ?_; refine xm rfl rfl ?_; refine xp (v_len rfl underlying22 rfl) rfl ?_; refine xp (v_gt rfl rfl rfl (dT (by omega))) rfl ?_; refine xm rfl rfl ?_; refine xno rfl ?_; refine xno rfl ?_; refine xno rfl ?_; refine xp (v_pt rfl rfl rfl) rfl ?_; refine xm rfl rfl ?_; refine xno rfl ?_; refine xno rfl ?_; refine xno rfl ?_; refine xp (v_pt rfl rfl rfl) rfl ?_; refine xm rfl rfl ?_; refine xno rfl ?_; refine xno rfl ?_; refine xno rfl ?_; refine xp (v_pt rfl rfl rfl) rfl ?_; refine WO_nil (sq_n (hK3 _ _ ?_)); refine W.keep [0,1,2,3,8,37] rfl ?_; refine W_cond_t rfl ?_; refine W_seq fun K4 hK4 => ?_; refine W_region ?_; refine xa rfl rfl ?_; refine WO_nil (sq_n (hK4 _ _ ?_)); refine W_ret (sq_r (ret_of (v := _) rfl ?_)); exact ⟨rfl, [], .all⟩
  · by_cases b1 : 2147483647 < V.length
    · refine W_region ?_; refine xm rfl rfl ?_; refine xp (v_len rfl underlying22 rfl) rfl ?_; refine xp (v_gt rfl rfl rfl (dF (by omega))) rfl ?_; refine xm rfl rfl ?_; refine xm rfl rfl ?_; refine xp (v_len rfl underlying23 rfl) rfl ?_; refine xp (v_gt rfl rfl rfl (dT (by omega))) rfl ?_; refine xp (v_pf rfl rfl rfl) rfl ?_; refine xm rfl rfl ?_; refine xno rfl ?_; refine xno rfl ?_; refine xno rfl ?_; refine xp (v_pt rfl rfl rfl) rfl ?_; refine xm rfl rfl ?_; refine xno rfl ?_; refine xno rfl ?_; refine xno rfl ?_; refine xp (v_pt rfl rfl rfl) rfl ?_; refine WO_nil (sq_n (hK3 _ _ ?_)); refine W.keep [0,1,2,3,8,37] rfl ?_; refine W_cond_t rfl ?_; refine W_seq fun K5 hK5 => ?_; refine W_region ?_; refine xa rfl rfl ?_; refine WO_nil (sq_n (hK5 _ _ ?_)); refine W_ret (sq_r (ret_of (v := _) rfl ?_)); exact ⟨rfl, [], .all⟩
    · by_cases b2 : 2147483647 < Pl.length
      · refine W_region ?_; refine xm rfl rfl ?_; refine xp (v_len rfl underlying22 rfl) rfl ?_; refine xp (v_gt rfl rfl rfl (dF (by omega))) rfl ?_; refine xm rfl rfl ?_; refine xm rfl rfl ?_; refine xp (v_len rfl underlying23 rfl) rfl ?_; refine xp (v_gt rfl rfl rfl (dF (by omega))) rfl ?_; refine xp (v_pf rfl rfl rfl) rfl ?_; refine xm rfl rfl ?_; refine xm rfl rfl ?_; refine xp (v_len rfl underlying23 rfl) rfl ?_; refine xp (v_gt rfl rfl rfl (dT (by omega))) rfl ?_; refine xp (v_pf rfl rfl rfl) rfl ?_; refine xm rfl rfl ?_; refine xno rfl ?_; refine xno rfl ?_; refine xno rfl ?_; refine xp (v_pt rfl rfl rfl) rfl ?_; refine WO_nil (sq_n (hK3 _ _ ?_)); refine W.keep [0,1,2,3,8,37] rfl ?_; refine W_cond_t rfl ?_; refine W_seq fun K6 hK6 => ?_; refine W_region ?_; refine xa rfl rfl ?_; refine WO_nil (sq_n (hK6 _ _ ?_)); refine W_ret (sq_r (ret_of (v := _) rfl ?_)); exact ⟨rfl, [], .all⟩
      · refine W_region ?_; refine xm rfl rfl ?_; refine xp (v_len rfl underlying22 rfl) rfl ?_; refine xp (v_gt rfl rfl rfl (dF (by omega))) rfl ?_; refine xm rfl rfl ?_; refine xm rfl rfl ?_; refine xp (v_len rfl underlying23 rfl) rfl ?_; refine xp (v_gt rfl rfl rfl (dF (by omega))) rfl ?_; refine xp (v_pf rfl rfl rfl) rfl ?_; refine xm rfl rfl ?_; refine xm rfl rfl ?_; refine xp (v_len rfl underlying23 rfl) rfl ?_; refine xp (v_gt rfl rfl rfl (dF (by omega))) rfl ?_; refine xp (v_pf rfl rfl rfl) rfl ?_; refine xm rfl rfl ?_; refine xm rfl rfl ?_; refine xp (v_len rfl underlying22 rfl) rfl ?_; refine xp (v_gt rfl rfl rfl (dT (by omega))) rfl ?_; refine xp (v_pf rfl rfl rfl) rfl ?_; refine WO_nil (sq_n (hK3 _ _ ?_)); refine W.keep [0,1,2,3,8,37] rfl ?_; refine W_cond_t rfl ?_; refine W_seq fun K7 hK7 => ?_; refine W_region ?_; refine xa rfl rfl ?_; refine WO_nil (sq_n (hK7 _ _ ?_))
        refine W_ret (sq_r (ret_of (v := _) rfl ?_)); exact ⟨rfl, [], .all⟩
set_option maxHeartbeats 2000000 in
theorem fnDamaged_spec (hG : GD D eof shb uex hdr dic chk) (hd : Dat p A D) (hA : ∀ x ∈ A, x < 256) (hl : A.length ≤ 2147483647) (hz : DatZ pw V D) (hV : ZW V) (hvl : V.length ≤ 2147483647)
    (hp : DatZ pp Pl D) (hpl : Pl.length ≤ 2147483647) (hq : Dat pb Qb D) (hQ : ∀ x ∈ Qb, x < 256) (hql : Qb.length ≤ 2147483647) :
    CallsL Tryz.prog 3 #[.slice p A.length cap, .slice pw V.length capw, .slice pp Pl.length capp, .slice pb Qb.length capb] D fun v H' => v = .bool true ∧ ∃ Y, HSub H' D Y := by
  obtain ⟨K, hK1, hK2⟩ : ∃ K, dmeas A V 0 0 < K ∧ K ≤ 2 ^ 30 := ⟨2 ^ 30, dmeas_le V (by omega), Nat.le_refl _⟩; obtain ⟨hz1, hz2, hz3⟩ := zs_ok (tb := 94) (K := K) (V := V) hA (by decide) hl; have hzs := zlib_spec (lv := 1) (tb := 94) (K := K) (cap := cap) (capl := capw) (by decide) hd2_low1 (by decide) (by decide) (by decide) hd hA (by omega) hz hV (by omega) hK1 hK2; clear hK1 hK2; generalize zs 94 A V K = Z at *; refine CallsL_of func3 rfl ntmps3 rfl ?_
  try dsimp only [initE, Nat.zero_add]
  refine W_seq fun K1 hK1 => ?_; refine W_region ?_; refine xa rfl rfl ?_; refine WO_nil (sq_n (hK1 _ _ ?_)); refine W_seq fun K2 hK2 => ?_; refine W_seq fun K3 hK3 => ?_; refine W_region ?_; refine xm rfl rfl ?_; refine xp (v_len rfl underlying22 rfl) rfl ?_; refine xp (v_gt rfl rfl rfl (dF (by omega))) rfl ?_; refine xm rfl rfl ?_; refine xm rfl rfl ?_; refine xp (v_len rfl underlying23 rfl) rfl ?_; refine xp (v_gt rfl rfl rfl (dF (by omega))) rfl ?_; refine xp (v_pf rfl rfl rfl) rfl ?_; refine xm rfl rfl ?_; refine xm rfl rfl ?_; refine xp (v_len rfl underlying23 rfl) rfl ?_; refine xp (v_gt rfl rfl rfl (dF (by omega))) rfl ?_; refine xp (v_pf rfl rfl rfl) rfl ?_; refine xm rfl rfl ?_; refine xm rfl rfl ?_; refine xp (v_len rfl underlying22 rfl) rfl ?_; refine xp (v_gt rfl rfl rfl (dF (by omega))) rfl ?_; refine xp (v_pf rfl rfl rfl) rfl ?_; refine WO_nil (sq_n (hK3 _ _ ?_))
  refine W.keep [0,1,2,3,8,37] rfl ?_; refine W_cond_f rfl ?_; refine W_skip (sq_n (hK2 _ _ ?_)); refine W_seq fun K4 hK4 => ?_; refine W_region ?_; refine xm rfl rfl ?_; refine xm rfl rfl ?_; refine wc (e_c rfl rfl rfl call5) rfl rfl rfl (hzs) .all ?_; rintro _ _ ⟨p9, c9, Hz, rfl, hO, rfl⟩; obtain ⟨bz, rest, rfl, hcl0, hrl, rfl⟩ := hO.elem (by omega); clear hO hzs; (try simp only [ap4]); refine xa rfl rfl ?_; refine WO_nil (sq_n (hK4 _ _ ?_)); refine W.keep [2,3,8,9] rfl ?_; refine W_seq fun K5 hK5 => ?_; refine W_seq fun K6 hK6 => ?_; refine W_region ?_; refine xm rfl rfl ?_; refine xp (v_len rfl underlying23 rfl) rfl ?_; refine xm rfl rfl ?_; refine WO_nil (sq_n (hK6 _ _ ?_)); refine W_block ?_
  refine W_loop (fun m E H => ∃ i Y, i ≤ Pl.length ∧ m = Pl.length - i ∧ Y.length = Z.length ∧ (∀ c ∈ Y, c < 256) ∧ Sub E [(3, .slice pb Qb.length capb), (9, .slice (some ⟨bz, 0, none⟩) Z.length c9), (41, .slice pp Pl.length capp), (42, iV Pl.length), (43, iV i)] ∧ H = (bz, .cells (List.toArray (Y.map bV ++ rest)) 5 (0, 0)) :: D) (m := _) (⟨0, Z, Nat.zero_le _, rfl, rfl, hz1, ⟨rfl, rfl, rfl, rfl, rfl, trivial⟩, rfl⟩) ?_; rintro m E H ⟨i, Y, hi, rfl, hYl, hYb, hE, rfl⟩; refine W.env hE ?_; refine W_seq fun K7 hK7 => ?_; refine W_region ?_; refine xp (n_lt rfl rfl rfl) rfl ?_; refine WO_nil (sq_n (hK7 _ _ ?_)); refine W_seq fun K8 hK8 => ?_; refine W_cond rfl (fun hc1 => ?_) (fun hc1 => ?_)
  · replace hc1 := of_decide_eq_true hc1; obtain ⟨b2, off, c, ty, fz, r, rfl, hat, hcc⟩ := hp (by intro e; rw [List.range_eq_nil] at e; omega); have hcell := hcc i (by rw [List.length_range]; exact hc1); rw [List.getElem_range] at hcell; obtain ⟨z, hzp⟩ : ∃ z, Pl.getD i 0 = z := ⟨_, rfl⟩; unfold zf at hcell; rw [hzp] at hcell; refine W_skip (sq_n (hK8 _ _ ?_)); refine W_seq fun K9 hK9 => ?_; refine W_block ?_; refine W_seq fun K10 hK10 => ?_; refine W_region ?_; refine xm rfl rfl ?_; refine xp (v_ixs rfl underlying23 sizeOf3 rfl rfl (by omega)) rfl ?_; refine xv (v_ld rfl rfl isAgg3 (v := .int .i64 z) hcell) rfl ?_; refine xa rfl rfl ?_; refine xa rfl rfl ?_; refine WO_nil (sq_n (hK10 _ _ ?_)); refine W_seq fun K11 hK11 => ?_; refine W_region ?_; refine xm rfl rfl ?_; refine xp (v_len rfl underlying22 rfl) rfl ?_; refine xp (n_gt rfl rfl rfl) rfl ?_; refine WO_nil (sq_n (hK11 _ _ ?_))
    refine W_cond rfl (fun hc2 => ?_) (fun hc2 => ?_)
    · replace hc2 := of_decide_eq_true hc2; obtain ⟨b3, off3, c3, ty3, fz3, r3, rfl, hat3, hcc3⟩ := hq (by intro e; subst e; simp at hc2); have hmq := Nat.mod_lt i hc2; have hgq : c3[off3 + i % Qb.length]? = some (bV (Qb.getD (i % Qb.length) 0)) := by rw [hcc3 _ hmq, getD_in hmq]
      have hq8 := getD_256 hQ (i % Qb.length); obtain ⟨j, hj⟩ : ∃ j, (z % (Z.length : Int)).toNat = j := ⟨_, rfl⟩; have hjn : j < Z.length := by
        have h1 := Int.emod_nonneg z (show (Z.length : Int) ≠ 0 by omega); have h2 := Int.emod_lt_of_pos z (show (0 : Int) < Z.length by omega); omega
      have hy8 := getD_256 hYb j; have htm := tmod3 (z := z) (m := Z.length) (by omega); rw [hj] at htm; have hb1 := Int.lt_tmod_of_pos z (show (0 : Int) < Z.length by omega); have hb2 := Int.tmod_lt_of_pos z (show (0 : Int) < Z.length by omega); have hgx : ∀ c ∈ Y.set j (Y.getD j 0 ^^^ Qb.getD (i % Qb.length) 0), c < 256 := fun c hc => (mem_set hc).elim (hYb c) fun e => by rw [e]; exact Nat.xor_lt_two_pow (n := 8) hy8 hq8
      refine W_draw mixed ?_; refine WA_k (fuel := 1) [0,1,2,3,4,5,6,7,8,9,10,11,12,13,14,15,16,17,18,19,20,21] rfl (by kernel_rfl) ?_; refine ym rfl rfl rfl ?_; refine ym rfl rfl rfl ?_; refine ym rfl rfl rfl ?_; refine yp rfl (v_len rfl underlying22 rfl) rfl ?_; refine yp rfl (v_rem rfl rfl rfl (by omega) (r := z.tmod Z.length) rfl) rfl ?_; refine ym rfl rfl rfl ?_; refine yp rfl (v_len rfl underlying22 rfl) rfl ?_; refine yp rfl (v_add rfl rfl rfl (r := z.tmod Z.length + Z.length) (wrapI (by omega) (by omega))) rfl ?_; refine ym rfl rfl rfl ?_; refine yp rfl (v_len rfl underlying22 rfl) rfl ?_; refine yp rfl (v_rem rfl rfl rfl (by omega) (r := (j : Int)) htm) rfl ?_; refine yp rfl (v_ixs rfl underlying22 sizeOf5 rfl rfl (by omega)) rfl ?_; refine yv rfl (v_ld rfl rfl isAgg5 (map_get (f := bV) (by omega))) rfl ?_; refine ym rfl rfl rfl ?_; refine ym rfl rfl rfl ?_
      refine ym rfl rfl rfl ?_; refine yp rfl (v_len rfl underlying22 rfl) rfl ?_; refine yp rfl (n_rem rfl rfl rfl (by omega)) rfl ?_; refine yp rfl (v_ixs rfl underlying22 sizeOf5 rfl rfl (by omega)) rfl ?_; refine yv rfl (v_ld rfl rfl isAgg5 hgq) rfl ?_; refine yp rfl (n_xor rfl rfl rfl kB (by omega) (by omega)) rfl ?_; refine yp rfl (v_ixs rfl underlying22 sizeOf5 rfl rfl (by omega)) rfl ?_; refine WK_nil ?_; refine WA_one (k := 22) rfl (by kernel_rfl) ?_; refine wst' rfl rfl rfl sizeOf5 rfl (map_put (f := bV) (by omega)) (by rw [List.length_append, List.length_map]; omega) rfl rfl ?_; refine WO_nil (sq_n ?_); refine WA_nil (by kernel_rfl) (bl_n (sq_n (hK9 _ _ ?_))); refine W_region ?_; refine xp (n_add rfl rfl rfl kI (by omega)) rfl ?_; refine xm rfl rfl ?_; refine WO_nil (sq_n (?_)); first
      | (have h9 := hgx; refine ⟨Pl.length - (i + 1), by omega, i + 1, _, by omega, rfl, ?_, hgx, ⟨rfl, rfl, rfl, rfl, rfl, trivial⟩, rfl⟩; rw [List.length_set]; exact hYl)
      | exact ⟨Pl.length - (i + 1), by omega, i + 1, Y, by omega, rfl, hYl, hYb, ⟨rfl, rfl, rfl, rfl, rfl, trivial⟩, rfl⟩
    · replace hc2 := of_decide_eq_false hc2; refine W_skip (bl_n (sq_n (hK9 _ _ ?_))); refine W_region ?_; refine xp (n_add rfl rfl rfl kI (by omega)) rfl ?_; refine xm rfl rfl ?_; refine WO_nil (sq_n (?_)); first
      | (have h9 := hgx; refine ⟨Pl.length - (i + 1), by omega, i + 1, _, by omega, rfl, ?_, hgx, ⟨rfl, rfl, rfl, rfl, rfl, trivial⟩, rfl⟩; rw [List.length_set]; exact hYl)
      | exact ⟨Pl.length - (i + 1), by omega, i + 1, Y, by omega, rfl, hYl, hYb, ⟨rfl, rfl, rfl, rfl, rfl, trivial⟩, rfl⟩
  · replace hc1 := of_decide_eq_false hc1; clear hrl hz1 hi hc1; refine W_exit (sq_x (sq_x (bl_x (sq_n (hK5 _ _ ?_))))); refine W.keep [9] rfl ?_; refine W_seq fun K12 hK12 => ?_; rw [← hYl] at hz2 hz3 hcl0 ⊢; have hdY : ∀ G : Hl, DatV bV (some ⟨bz, 0, none⟩) Y (G ++ ((bz, .cells (List.toArray (Y.map bV ++ rest)) 5 (0, 0)) :: D)) := fun G => datV_cells.app G; rcases hu : unzl Y with _ | ⟨o, u⟩
    · refine W_region ?_; refine xm rfl rfl ?_; refine wc (e_c rfl rfl rfl call6) rfl rfl rfl (unzlib_spec (hdY []) hYb hz3 hcl0) .all ?_; rintro v _ ⟨G, hv, rfl⟩; rw [hu] at hv; change v = .tuple #[.slice none 0 0, .int .i64 0, .bool false] at hv; subst hv; (try simp only [ap4]); refine xm rfl rfl ?_; refine xp (v_ex rfl rfl rfl) rfl ?_; refine xp (v_ex rfl rfl rfl) rfl ?_; refine xp (v_ex rfl rfl rfl) rfl ?_; refine xa rfl rfl ?_; refine xa rfl rfl ?_; refine xa rfl rfl ?_; refine WO_nil (sq_n (hK12 _ _ ?_)); refine W.keep [9,12,13,14] rfl ?_; refine W_seq fun K13 hK13 => ?_; refine W_region ?_; refine xm rfl rfl ?_; refine wc (e_c rfl rfl rfl call7) rfl rfl rfl (unpack_spec ((hG.cons _).app G) (hdY G) hYb hz3 hcl0) .all ?_; rintro _ _ ⟨p2, L, c2, f, rst, G2, rfl, rfl, h1, h2, h3, h4, h5, h6, hor⟩; (try simp only [ap4]); refine xm rfl rfl ?_; refine xp (v_ex rfl rfl rfl) rfl ?_
      refine xp (v_ex rfl rfl rfl) rfl ?_; refine xp (v_ex rfl rfl rfl) rfl ?_; refine xa rfl rfl ?_; refine xa rfl rfl ?_; refine xa rfl rfl ?_; refine WO_nil (sq_n (hK13 _ _ ?_)); refine W.keep [9,12,13,14,15,16,17] rfl ?_; refine W_seq fun K14 hK14 => ?_; refine W_seq fun K15 hK15 => ?_; have hdY2 := (hdY G).app G2; rcases hak : asks Y with ⟨idn, is⟩
      · rcases is with _ | _; skip
        · refine W_region ?_; refine xm rfl rfl ?_; refine wc (e_c rfl rfl rfl call8) rfl rfl rfl (asks_spec hdY2 hYb (by omega) hcl0) .all ?_; rintro _ Hx ⟨rfl, hHx⟩; rw [hHx, hak]; (try simp only [ap4]); refine xm rfl rfl ?_; refine xp (v_ex rfl rfl rfl) rfl ?_; refine xp (v_ex rfl rfl rfl) rfl ?_; refine xa rfl rfl ?_; refine xa rfl rfl ?_; refine WO_nil (sq_n (hK15 _ _ ?_)); refine W.keep [9,12,13,14,15,16,17,18,19] rfl ?_; refine W_seq fun K16 hK16 => ?_; refine W_region ?_; refine xm rfl rfl ?_; refine xm rfl rfl ?_; refine xno rfl ?_; refine xno rfl ?_; refine xp (v_pf rfl rfl rfl) rfl ?_; refine WO_nil (sq_n (hK16 _ _ ?_)); refine W.keep [9,12,13,14,15,16,17,95] rfl ?_; refine W_cond_f rfl ?_; refine W_skip (sq_n (hK14 _ _ ?_)); refine W_seq fun K17 hK17 => ?_; refine W_seq fun K18 hK18 => ?_
          have hna : ¬ ((asks Y).2 = true ∧ (asks Y).1 = 1) := by rw [hak]; exact fun h => nomatch h.1
          refine W_region ?_; refine xm rfl rfl ?_; refine xp (v_not rfl rfl rfl) rfl ?_; refine WO_nil (sq_n (hK18 _ _ ?_)); refine W.keep [9,12,13,15,16,17,99] rfl ?_; refine W_cond_t rfl ?_; refine W_seq fun K19 hK19 => ?_; have hf0 : f ≠ 0 := fun e => hor.elim (fun h => by obtain ⟨u, h1, _⟩ := unz_unzl hna h.2; rw [hu] at h1; cases h1) fun h => h.1 e; refine W_region ?_; refine xm rfl rfl ?_; refine xp (v_ne rfl rfl rfl (dT (by omega))) rfl ?_; refine xm rfl rfl ?_; refine wc (e_c rfl rfl rfl call5) rfl rfl rfl (zlib0_spec (D := D)) (.app (.app (.skip .all))) ?_; rintro _ _ ⟨pz, cz, Gz, rfl, hOz, rfl⟩; (try simp only [ap4]); refine wc (e_c rfl rfl rfl call9) rfl rfl rfl (reads_spec (hG.app Gz) (hOz.dat.appl D) (by decide) (by decide) hOz.capl z0_unz (by decide)) (.app (.app (.skip .all))) ?_; rintro _ _ ⟨G3, rfl, rfl⟩; (try simp only [ap4]); refine xp (v_pt rfl rfl rfl) rfl ?_
          refine xa rfl rfl ?_; refine WO_nil (sq_n (hK19 _ _ ?_)); refine W.keep [9,12,13,15,16,17,8] rfl ?_; refine W_ret (sq_r (ret_of (v := _) rfl ?_)); exact ⟨rfl, _, .app (.app (.skip (.app (.app .all))))⟩
        · by_cases hid : idn = 1
          · subst hid; refine W_region ?_; refine xm rfl rfl ?_; refine wc (e_c rfl rfl rfl call8) rfl rfl rfl (asks_spec hdY2 hYb (by omega) hcl0) .all ?_; rintro _ Hx ⟨rfl, hHx⟩; rw [hHx, hak]; (try simp only [ap4]); refine xm rfl rfl ?_; refine xp (v_ex rfl rfl rfl) rfl ?_; refine xp (v_ex rfl rfl rfl) rfl ?_; refine xa rfl rfl ?_; refine xa rfl rfl ?_; refine WO_nil (sq_n (hK15 _ _ ?_)); refine W.keep [9,12,13,14,15,16,17,18,19] rfl ?_; refine W_seq fun K20 hK20 => ?_; refine W_region ?_; refine xm rfl rfl ?_; refine xm rfl rfl ?_; refine xm rfl rfl ?_; refine xp (v_eq rfl rfl rfl (dT (by rfl))) rfl ?_; refine xp (v_pt rfl rfl rfl) rfl ?_; refine WO_nil (sq_n (hK20 _ _ ?_)); refine W.keep [9,12,13,14,15,16,17,95] rfl ?_; refine W_cond_t rfl ?_; refine W_seq fun K21 hK21 => ?_; refine W_region ?_
            refine wc (e_c rfl rfl rfl call5) rfl rfl rfl (zlib0_spec (D := D)) (.app (.app (.skip .all))) ?_; rintro _ _ ⟨pz, cz, Gz, rfl, hOz, rfl⟩; (try simp only [ap4]); refine wc (e_c rfl rfl rfl call9) rfl rfl rfl (reads_spec (hG.app Gz) (hOz.dat.appl D) (by decide) (by decide) hOz.capl z0_unz (by decide)) (.app (.app (.skip .all))) ?_; rintro _ _ ⟨G3, rfl, rfl⟩; (try simp only [ap4]); refine xa rfl rfl ?_; refine WO_nil (sq_n (hK21 _ _ ?_)); refine W.keep [9,12,13,14,15,16,17,8] rfl ?_; refine W_ret (sq_r (ret_of (v := _) rfl ?_)); exact ⟨rfl, _, .app (.app (.skip (.app (.app .all))))⟩
          · refine W_region ?_; refine xm rfl rfl ?_; refine wc (e_c rfl rfl rfl call8) rfl rfl rfl (asks_spec hdY2 hYb (by omega) hcl0) .all ?_; rintro _ Hx ⟨rfl, hHx⟩; rw [hHx, hak]; (try simp only [ap4]); refine xm rfl rfl ?_; refine xp (v_ex rfl rfl rfl) rfl ?_; refine xp (v_ex rfl rfl rfl) rfl ?_; refine xa rfl rfl ?_; refine xa rfl rfl ?_; refine WO_nil (sq_n (hK15 _ _ ?_)); refine W.keep [9,12,13,14,15,16,17,18,19] rfl ?_; refine W_seq fun K22 hK22 => ?_; refine W_region ?_; refine xm rfl rfl ?_; refine xm rfl rfl ?_; refine xm rfl rfl ?_; refine xp (v_eq rfl rfl rfl (dF (by omega))) rfl ?_; refine xp (v_pt rfl rfl rfl) rfl ?_; refine WO_nil (sq_n (hK22 _ _ ?_)); refine W.keep [9,12,13,14,15,16,17,95] rfl ?_; refine W_cond_f rfl ?_; refine W_skip (sq_n (hK14 _ _ ?_)); refine W_seq fun K23 hK23 => ?_; refine W_seq fun K24 hK24 => ?_
            have hna : ¬ ((asks Y).2 = true ∧ (asks Y).1 = 1) := by rw [hak]; exact fun h => hid h.2
            refine W_region ?_; refine xm rfl rfl ?_; refine xp (v_not rfl rfl rfl) rfl ?_; refine WO_nil (sq_n (hK24 _ _ ?_)); refine W.keep [9,12,13,15,16,17,99] rfl ?_; refine W_cond_t rfl ?_; refine W_seq fun K25 hK25 => ?_; have hf0 : f ≠ 0 := fun e => hor.elim (fun h => by obtain ⟨u, h1, _⟩ := unz_unzl hna h.2; rw [hu] at h1; cases h1) fun h => h.1 e; refine W_region ?_; refine xm rfl rfl ?_; refine xp (v_ne rfl rfl rfl (dT (by omega))) rfl ?_; refine xm rfl rfl ?_; refine wc (e_c rfl rfl rfl call5) rfl rfl rfl (zlib0_spec (D := D)) (.app (.app (.skip .all))) ?_; rintro _ _ ⟨pz, cz, Gz, rfl, hOz, rfl⟩; (try simp only [ap4]); refine wc (e_c rfl rfl rfl call9) rfl rfl rfl (reads_spec (hG.app Gz) (hOz.dat.appl D) (by decide) (by decide) hOz.capl z0_unz (by decide)) (.app (.app (.skip .all))) ?_; rintro _ _ ⟨G3, rfl, rfl⟩; (try simp only [ap4]); refine xp (v_pt rfl rfl rfl) rfl ?_
            refine xa rfl rfl ?_; refine WO_nil (sq_n (hK25 _ _ ?_)); refine W.keep [9,12,13,15,16,17,8] rfl ?_; refine W_ret (sq_r (ret_of (v := _) rfl ?_)); exact ⟨rfl, _, .app (.app (.skip (.app (.app .all))))⟩
    · refine W_region ?_; refine xm rfl rfl ?_; refine wc (e_c rfl rfl rfl call6) rfl rfl rfl (unzlib_spec (hdY []) hYb hz3 hcl0) .all ?_; rintro v _ ⟨G, hv, rfl⟩; rw [hu] at hv; obtain ⟨p5, c5, hv, hdt⟩ := hv; subst hv; have huz := unzl_unz hu; have hul := huz.2; (try simp only [ap4]); refine xm rfl rfl ?_; refine xp (v_ex rfl rfl rfl) rfl ?_; refine xp (v_ex rfl rfl rfl) rfl ?_; refine xp (v_ex rfl rfl rfl) rfl ?_; refine xa rfl rfl ?_; refine xa rfl rfl ?_; refine xa rfl rfl ?_; refine WO_nil (sq_n (hK12 _ _ ?_)); refine W.keep [9,12,13,14] rfl ?_; refine W_seq fun K26 hK26 => ?_; refine W_region ?_; refine xm rfl rfl ?_; refine wc (e_c rfl rfl rfl call7) rfl rfl rfl (unpack_spec ((hG.cons _).app G) (hdY G) hYb hz3 hcl0) .all ?_; rintro _ _ ⟨p2, L, c2, f, rst, G2, rfl, rfl, h1, h2, h3, h4, h5, h6, hor⟩; (try simp only [ap4]); refine xm rfl rfl ?_; refine xp (v_ex rfl rfl rfl) rfl ?_
      refine xp (v_ex rfl rfl rfl) rfl ?_; refine xp (v_ex rfl rfl rfl) rfl ?_; refine xa rfl rfl ?_; refine xa rfl rfl ?_; refine xa rfl rfl ?_; refine WO_nil (sq_n (hK26 _ _ ?_)); refine W.keep [9,12,13,14,15,16,17] rfl ?_; refine W_seq fun K27 hK27 => ?_; refine W_seq fun K28 hK28 => ?_; have hdY2 := (hdY G).app G2; rcases hak : asks Y with ⟨idn, is⟩
      · rcases is with _ | _; skip
        · refine W_region ?_; refine xm rfl rfl ?_; refine wc (e_c rfl rfl rfl call8) rfl rfl rfl (asks_spec hdY2 hYb (by omega) hcl0) .all ?_; rintro _ Hx ⟨rfl, hHx⟩; rw [hHx, hak]; (try simp only [ap4]); refine xm rfl rfl ?_; refine xp (v_ex rfl rfl rfl) rfl ?_; refine xp (v_ex rfl rfl rfl) rfl ?_; refine xa rfl rfl ?_; refine xa rfl rfl ?_; refine WO_nil (sq_n (hK28 _ _ ?_)); refine W.keep [9,12,13,14,15,16,17,18,19] rfl ?_; refine W_seq fun K29 hK29 => ?_; refine W_region ?_; refine xm rfl rfl ?_; refine xm rfl rfl ?_; refine xno rfl ?_; refine xno rfl ?_; refine xp (v_pf rfl rfl rfl) rfl ?_; refine WO_nil (sq_n (hK29 _ _ ?_)); refine W.keep [9,12,13,14,15,16,17,95] rfl ?_; refine W_cond_f rfl ?_; refine W_skip (sq_n (hK27 _ _ ?_)); refine W_seq fun K30 hK30 => ?_; refine W_seq fun K31 hK31 => ?_
          have hna : ¬ ((asks Y).2 = true ∧ (asks Y).1 = 1) := by rw [hak]; exact fun h => nomatch h.1
          refine W_region ?_; refine xm rfl rfl ?_; refine xp (v_not rfl rfl rfl) rfl ?_; refine WO_nil (sq_n (hK31 _ _ ?_)); refine W.keep [9,12,13,15,16,17,99] rfl ?_; refine W_cond_f rfl ?_; refine W_skip (sq_n (hK30 _ _ ?_)); refine W_seq fun K32 hK32 => ?_; obtain ⟨rfl, hun⟩ : f = 0 ∧ unz Y L rst := hor.elim id fun h => absurd huz.1 (h.2 _ _); obtain ⟨e1, e2⟩ := unz_uniq huz.1 hun; subst e1 e2; refine W_region ?_; refine xm rfl rfl ?_; refine xp (v_eq rfl rfl rfl (dT (by rfl))) rfl ?_; refine xm rfl rfl ?_; refine xm rfl rfl ?_; refine xm rfl rfl ?_; refine wc (e_c rfl rfl rfl call10) rfl rfl rfl (same_spec (L := o) rfl rfl (h6.appl _) (((hdt.appl _).app G2))) .all ?_; rintro _ Hx ⟨rfl, hHx⟩; rw [hHx]; (try simp only [ap4]); refine xp (v_pt rfl rfl rfl) rfl ?_; refine xm rfl rfl ?_; refine xm rfl rfl ?_; refine xm rfl rfl ?_; refine xp (v_len rfl underlying22 rfl) rfl ?_
          refine xm rfl rfl ?_; refine xp (n_sub rfl rfl rfl kI (by omega) (by omega)) rfl ?_; refine xp (v_eq rfl rfl rfl (dT (by rfl))) rfl ?_; refine xp (v_pt rfl rfl rfl) rfl ?_; refine xa rfl rfl ?_; refine WO_nil (sq_n (hK32 _ _ ?_)); refine W.keep [8] rfl ?_; refine W_ret (ret_of (v := _) rfl ?_); exact ⟨rfl, _, .app (.app (.skip .all))⟩
        · by_cases hid : idn = 1
          · subst hid; refine W_region ?_; refine xm rfl rfl ?_; refine wc (e_c rfl rfl rfl call8) rfl rfl rfl (asks_spec hdY2 hYb (by omega) hcl0) .all ?_; rintro _ Hx ⟨rfl, hHx⟩; rw [hHx, hak]; (try simp only [ap4]); refine xm rfl rfl ?_; refine xp (v_ex rfl rfl rfl) rfl ?_; refine xp (v_ex rfl rfl rfl) rfl ?_; refine xa rfl rfl ?_; refine xa rfl rfl ?_; refine WO_nil (sq_n (hK28 _ _ ?_)); refine W.keep [9,12,13,14,15,16,17,18,19] rfl ?_; refine W_seq fun K33 hK33 => ?_; refine W_region ?_; refine xm rfl rfl ?_; refine xm rfl rfl ?_; refine xm rfl rfl ?_; refine xp (v_eq rfl rfl rfl (dT (by rfl))) rfl ?_; refine xp (v_pt rfl rfl rfl) rfl ?_; refine WO_nil (sq_n (hK33 _ _ ?_)); refine W.keep [9,12,13,14,15,16,17,95] rfl ?_; refine W_cond_t rfl ?_; refine W_seq fun K34 hK34 => ?_; refine W_region ?_
            refine wc (e_c rfl rfl rfl call5) rfl rfl rfl (zlib0_spec (D := D)) (.app (.app (.skip .all))) ?_; rintro _ _ ⟨pz, cz, Gz, rfl, hOz, rfl⟩; (try simp only [ap4]); refine wc (e_c rfl rfl rfl call9) rfl rfl rfl (reads_spec (hG.app Gz) (hOz.dat.appl D) (by decide) (by decide) hOz.capl z0_unz (by decide)) (.app (.app (.skip .all))) ?_; rintro _ _ ⟨G3, rfl, rfl⟩; (try simp only [ap4]); refine xa rfl rfl ?_; refine WO_nil (sq_n (hK34 _ _ ?_)); refine W.keep [9,12,13,14,15,16,17,8] rfl ?_; refine W_ret (sq_r (ret_of (v := _) rfl ?_)); exact ⟨rfl, _, .app (.app (.skip (.app (.app .all))))⟩
          · refine W_region ?_; refine xm rfl rfl ?_; refine wc (e_c rfl rfl rfl call8) rfl rfl rfl (asks_spec hdY2 hYb (by omega) hcl0) .all ?_; rintro _ Hx ⟨rfl, hHx⟩; rw [hHx, hak]; (try simp only [ap4]); refine xm rfl rfl ?_; refine xp (v_ex rfl rfl rfl) rfl ?_; refine xp (v_ex rfl rfl rfl) rfl ?_; refine xa rfl rfl ?_; refine xa rfl rfl ?_; refine WO_nil (sq_n (hK28 _ _ ?_)); refine W.keep [9,12,13,14,15,16,17,18,19] rfl ?_; refine W_seq fun K35 hK35 => ?_; refine W_region ?_; refine xm rfl rfl ?_; refine xm rfl rfl ?_; refine xm rfl rfl ?_; refine xp (v_eq rfl rfl rfl (dF (by omega))) rfl ?_; refine xp (v_pt rfl rfl rfl) rfl ?_; refine WO_nil (sq_n (hK35 _ _ ?_)); refine W.keep [9,12,13,14,15,16,17,95] rfl ?_; refine W_cond_f rfl ?_; refine W_skip (sq_n (hK27 _ _ ?_)); refine W_seq fun K36 hK36 => ?_; refine W_seq fun K37 hK37 => ?_
            have hna : ¬ ((asks Y).2 = true ∧ (asks Y).1 = 1) := by rw [hak]; exact fun h => hid h.2
            refine W_region ?_; refine xm rfl rfl ?_; refine xp (v_not rfl rfl rfl) rfl ?_; refine WO_nil (sq_n (hK37 _ _ ?_)); refine W.keep [9,12,13,15,16,17,99] rfl ?_; refine W_cond_f rfl ?_; refine W_skip (sq_n (hK36 _ _ ?_)); refine W_seq fun K38 hK38 => ?_; obtain ⟨rfl, hun⟩ : f = 0 ∧ unz Y L rst := hor.elim id fun h => absurd huz.1 (h.2 _ _); obtain ⟨e1, e2⟩ := unz_uniq huz.1 hun; subst e1 e2; refine W_region ?_; refine xm rfl rfl ?_; refine xp (v_eq rfl rfl rfl (dT (by rfl))) rfl ?_; refine xm rfl rfl ?_; refine xm rfl rfl ?_; refine xm rfl rfl ?_; refine wc (e_c rfl rfl rfl call10) rfl rfl rfl (same_spec (L := o) rfl rfl (h6.appl _) (((hdt.appl _).app G2))) .all ?_; rintro _ Hx ⟨rfl, hHx⟩; rw [hHx]; (try simp only [ap4]); refine xp (v_pt rfl rfl rfl) rfl ?_; refine xm rfl rfl ?_; refine xm rfl rfl ?_; refine xm rfl rfl ?_; refine xp (v_len rfl underlying22 rfl) rfl ?_
            refine xm rfl rfl ?_; refine xp (n_sub rfl rfl rfl kI (by omega) (by omega)) rfl ?_; refine xp (v_eq rfl rfl rfl (dT (by rfl))) rfl ?_; refine xp (v_pt rfl rfl rfl) rfl ?_; refine xa rfl rfl ?_; refine WO_nil (sq_n (hK38 _ _ ?_)); refine W.keep [8] rfl ?_; refine W_ret (ret_of (v := _) rfl ?_); exact ⟨rfl, _, .app (.app (.skip .all))⟩
end
end Go.Proofs.YtpbahgddoamhgaaGreatDoor
namespace Go.Proofs.YtpbahgddoamhgaaGreatDoor
open Go Sx Pu Go.ChangeShapes Go.WideShapes
set_option maxRecDepth 100000

/-- all blocks of a world -/
noncomputable def hl (W : World) : Hl := W.heap.toList.zipIdx.map fun x => (x.2, x.1)
theorem mem_hl {W : World} {b : Nat} {o : Obj} : (b, o) ∈ hl W ↔ W.heap[b]? = some o := by
  unfold hl; rw [List.mem_map]; constructor
  · rintro ⟨⟨o2, b2⟩, h, e⟩; injection e with e1 e2; subst e1 e2; have := List.mem_zipIdx_iff_getElem?.1 h; simpa using this
  · intro h; exact ⟨(o, b), List.mem_zipIdx_iff_getElem?.2 (by simpa using h), rfl⟩
theorem hp_hl (W : World) : Hp W W (hl W ++ []) := by
  rw [List.append_nil]; refine ⟨rfl, rfl, ?_, fun p hp => mem_hl.1 hp⟩; have : (hl W).map Prod.fst = W.heap.toList.zipIdx.map Prod.snd := by
    unfold hl; rw [List.map_map]; rfl
  rw [this, List.zipIdx_map_snd]; exact List.nodup_range'
theorem atH_hl {W : World} {b : Nat} {o : Obj} (h : W.heap[b]? = some o) : ∃ r, AtH (hl W) b o r := by
  obtain ⟨A, B, e⟩ := List.append_of_mem (mem_hl.2 h); exact ⟨_, ⟨A, B, e, rfl⟩⟩
theorem atH_cells {W : World} {b : Nat} {c : Array Value} {t : TypeId} {fz : Nat × Nat} (h : W.heap[b]? = some (.cells c t fz)) : ∃ r, AtH (hl W) b (.cells (List.toArray c.toList) t fz) r :=
  atH_hl (by simpa using h)

/-- behind the call all that was there is there -/
structure Still (W W' : World) : Prop where
  os : W'.os = W.os
  out : W'.output = W.output
  heap : ∀ i, i < W.heap.size → W'.heap[i]? = W.heap[i]?
theorem still_of {W W' : World} {H' Y : Hl} (hp : Hp W W' (H' ++ [])) (hs : HSub H' (hl W) Y) : Still W W' := by
  refine ⟨hp.os, hp.out, fun i hi => ?_⟩; have h1 : W.heap[i]? = some W.heap[i] := Array.getElem?_eq_getElem hi; rw [h1]; refine hp.has (i, W.heap[i]) ?_; rw [List.append_nil]; exact hs.perm.mem_iff.2 (List.mem_append_left _ (mem_hl.2 h1))
theorem Still.cell {W W' : World} (h : Still W W') {a : Addr} {v : Value} (hc : W.cell? a = some v) : W'.cell? a = some v := by
  have hlt : a.block < W.heap.size := by
    rcases Nat.lt_or_ge a.block W.heap.size with h1 | h1
    · exact h1
    · simp [World.cell?, Array.getElem?_eq_none h1] at hc
  rw [← hc]; simp only [World.cell?, h.heap _ hlt]
theorem Still.kept {W W' : World} (h : Still W W') (may : MemPlace → Prop) : W.keptBut W' may := by
  refine ⟨h.os, h.out, fun i hi => ?_⟩; rw [h.heap i hi, Array.getElem?_eq_getElem hi]
  cases W.heap[i] with
  | cells c t fr => exact ⟨rfl, rfl, rfl, fun _ _ => rfl⟩
  | map es clock => exact .inr ⟨rfl, rfl⟩
  | _ => rfl

/-! the listed variables -/
theorem row184 (u : TypeId) (h : Tryz.prog.typeName? 3 u = some "*errors.errorString") : u = 184 :=
  typeName_ptr_named (nm := "errors.errorString") (by rw [show "*" ++ "errors.errorString" = "*errors.errorString" by decide]; kernel_rfl) (by kernel_rfl) (by decide) u (by rw [show "*" ++ "errors.errorString" = "*errors.errorString" by decide]; exact h)
theorem g_eof : Tryz.prog.globalNamed "io.EOF" = some 0 := by kernel_rfl
theorem g_hdr : Tryz.prog.globalNamed "cratestrap/pub/zlib.ErrHeader" = some 1 := by kernel_rfl
theorem g_dic : Tryz.prog.globalNamed "cratestrap/pub/zlib.ErrDictionary" = some 2 := by kernel_rfl
theorem g_chk : Tryz.prog.globalNamed "cratestrap/pub/zlib.ErrChecksum" = some 3 := by kernel_rfl
theorem g_uex : Tryz.prog.globalNamed "io.ErrUnexpectedEOF" = some 4 := by kernel_rfl
theorem g_shb : Tryz.prog.globalNamed "io.ErrShortBuffer" = some 6 := by kernel_rfl
theorem g_ord : Tryz.prog.globalNamed "cratestrap/pub/flate.codeOrder" = some 7 := by kernel_rfl
theorem gt0 : (Tryz.prog.globals[0]?).map (·.type) = some 47 := by kernel_rfl
theorem gt1 : (Tryz.prog.globals[1]?).map (·.type) = some 47 := by kernel_rfl
theorem gt2 : (Tryz.prog.globals[2]?).map (·.type) = some 47 := by kernel_rfl
theorem gt3 : (Tryz.prog.globals[3]?).map (·.type) = some 47 := by kernel_rfl
theorem gt4 : (Tryz.prog.globals[4]?).map (·.type) = some 47 := by kernel_rfl
theorem gt6 : (Tryz.prog.globals[6]?).map (·.type) = some 47 := by kernel_rfl
theorem gt7 : (Tryz.prog.globals[7]?).map (·.type) = some 149 := by kernel_rfl
theorem cells212 : Tryz.prog.cellsOf 212 = 1 := by kernel_rfl
theorem cells9 : Tryz.prog.cellsOf 9 = 1 := by kernel_rfl
theorem cells3 : Tryz.prog.cellsOf 3 = 1 := by kernel_rfl
theorem cells5 : Tryz.prog.cellsOf 5 = 1 := by kernel_rfl
theorem cells149 : Tryz.prog.cellsOf 149 = 19 := by kernel_rfl
theorem noHandles : (Rows.fnRawRow.laid.filter fun x => x.2.handleName?.isSome) = [] := by kernel_rfl
end Go.Proofs.YtpbahgddoamhgaaGreatDoor
namespace Go.Proofs.YtpbahgddoamhgaaGreatDoor
open Go.Proofs.Tryz
open Go Sx Pu Go.ChangeShapes Go.WideShapes
set_option maxRecDepth 100000

theorem var_heap {W : World} {n : String} {g : Nat} {cs : Array Value} (hg : Tryz.prog.globalNamed n = some g) (hv : W.var? Tryz.prog n = some cs) : ∃ t fz, W.heap[g]? = some (.cells cs t fz) := by
  unfold World.var? at hv; rw [hg] at hv; simp only [Option.bind_some] at hv
  split at hv
  · rename_i c t fz he; injection hv with hv; subst hv; exact ⟨_, _, he⟩
  · cases hv
abbrev plA (a : Addr) : MemPlace := .cell a.block (a.off + 0)
/-- one sentinel off the list -/
theorem step_err {W : World} {name : String} {g : Nat} {text : List UInt8} {rest : List (String × DataW Unit)} {ps : List MemPlace} (hg : Tryz.prog.globalNamed name = some g) (ht : (Tryz.prog.globals[g]?).map (·.type) = some 47)
    (h : DataW.LaidVars Tryz.prog W ((name, .iface "*errors.errorString" (.ptr (.agg [.lit (.string text)]))) :: rest) ps)
    (hrows : ∀ b off, MemPlace.cell b off ∈ ps → (∃ c t, W.heap[b]? = some (.cells c t (0, 0))) ∧ ∀ u v, W.cell? ⟨b, off, none⟩ = some (.iface u v) → Value.okWide Tryz.prog W .any 0 u v) :
    ∃ a q pre, (∃ t fz r, AtH (hl W) g (.cells (List.toArray [errV a]) t fz) r) ∧ (∃ c t r, AtH (hl W) a.block (.cells (List.toArray c) t (0, 0)) r) ∧ DataW.LaidVars Tryz.prog W rest q ∧ ps = pre ++ (plA a :: q) := by
  obtain ⟨g', t', cs, fuel, p, q, hg', ht', hv, hd, hq, e⟩ := h; obtain rfl := Option.some.inj (hg.symm.trans hg'); obtain rfl := Option.some.inj (ht.symm.trans ht'); obtain ⟨l⟩ := cs; have hok : ∀ u v, l = [.iface u v] → Value.okWide Tryz.prog W .any 0 u v := fun u v el => by
    subst el; exact (hrows g 0 (by rw [e]; simp [MemPlace.row])).2 u v (by simpa using World.var?_cell hg hv 0)
  obtain ⟨a, s, rfl, hc, hs, hsz, rfl⟩ := errorString_of_trod underlying47 row184 underlying184 underlying212 rfl rfl underlying9 cells212 cells9 hd hok; obtain ⟨t, fz, hh⟩ := var_heap hg hv; obtain ⟨c, t2, hb⟩ := (hrows a.block (a.off + 0) (by rw [e]; simp [MemPlace.row])).1; obtain ⟨r, hr⟩ := atH_hl hh; obtain ⟨r2, hr2⟩ := atH_cells hb; exact ⟨a, q, _, ⟨t, fz, r, hr⟩, ⟨_, t2, r2, hr2⟩, hq, by rw [e, List.append_assoc]; rfl⟩
/-- the table off the list -/
theorem step_tab {W : World} {rest : List (String × DataW Unit)} {ps : List MemPlace} (h : DataW.LaidVars Tryz.prog W (("cratestrap/pub/flate.codeOrder", Rows.laid_cratestrap_pub_flate_codeOrder) :: rest) ps) :
    ∃ q pre, (∃ t fz r, AtH (hl W) 7 (.cells (List.toArray (orderL.map iV)) t fz) r) ∧ DataW.LaidVars Tryz.prog W rest q ∧ ps = pre ++ q := by
  obtain ⟨g', t', cs, fuel, p, q, hg', ht', hv, hd, hq, e⟩ := h; obtain rfl := Option.some.inj (g_ord.symm.trans hg'); obtain rfl := Option.some.inj (gt7.symm.trans ht'); have hcs := Lib.cells_of_tab (zs := [16, 17, 18, 0, 8, 7, 9, 6, 10, 5, 11, 4, 12, 3, 13, 2, 14, 1, 15]) underlying149 underlying3 cells3 cells149 hd; obtain ⟨l⟩ := cs; obtain ⟨t, fz, hh⟩ := var_heap g_ord hv; obtain ⟨r, hr⟩ := atH_hl hh; refine ⟨q, _, ⟨t, fz, r, ?_⟩, hq, e⟩; have : l = orderL.map iV := hcs; subst this; exact hr
theorem laid_facts {W : World} (h : laidMetH Tryz.prog Rows.fnRawRow.laid W) : ∃ eof shb uex hdr dic chk, GD (hl W) eof shb uex hdr dic chk := by
  unfold laidMetH at h; rw [noHandles] at h; obtain ⟨ps, hL, hnd, hrows⟩ := (h : laidMet Tryz.prog Rows.fnRawRow.laid W); obtain ⟨shb, q1, p1, hs1, hb1, hL1, rfl⟩ := step_err g_shb gt6 hL hrows; have hr1 := fun b off hm => hrows b off (List.mem_append_right _ (List.mem_cons_of_mem _ hm)); obtain ⟨eof, q2, p2, hs2, hb2, hL2, rfl⟩ := step_err g_eof gt0 hL1 hr1; have hr2 := fun b off hm => hr1 b off (List.mem_append_right _ (List.mem_cons_of_mem _ hm)); obtain ⟨uex, q3, p3, hs3, hb3, hL3, rfl⟩ := step_err g_uex gt4 hL2 hr2; have hr3 := fun b off hm => hr2 b off (List.mem_append_right _ (List.mem_cons_of_mem _ hm)); obtain ⟨q4, p4, hs4, hL4, rfl⟩ := step_tab hL3; have hr4 := fun b off hm => hr3 b off (List.mem_append_right _ hm); obtain ⟨chk, q5, p5, hs5, hb5, hL5, rfl⟩ := step_err g_chk gt3 hL4 hr4; have hr5 := fun b off hm => hr4 b off (List.mem_append_right _ (List.mem_cons_of_mem _ hm))
  obtain ⟨dic, q6, p6, hs6, hb6, hL6, rfl⟩ := step_err g_dic gt2 hL5 hr5; have hr6 := fun b off hm => hr5 b off (List.mem_append_right _ (List.mem_cons_of_mem _ hm)); obtain ⟨hdr, q7, p7, hs7, hb7, hL7, rfl⟩ := step_err g_hdr gt1 hL6 hr6; have key : ([shb, eof, uex, chk, dic, hdr].map plA).Nodup := by
    refine hnd.sublist ?_; have l7 : [plA hdr].Sublist (p7 ++ plA hdr :: q7) := .trans (.cons_cons _ (List.nil_sublist _)) (List.sublist_append_right _ _); have l6 : [plA dic, plA hdr].Sublist (p6 ++ plA dic :: (p7 ++ plA hdr :: q7)) := .trans (.cons_cons _ l7) (List.sublist_append_right _ _); have l5 : [plA chk, plA dic, plA hdr].Sublist (p5 ++ plA chk :: (p6 ++ plA dic :: (p7 ++ plA hdr :: q7))) := .trans (.cons_cons _ l6) (List.sublist_append_right _ _); have l4 := l5.trans (List.sublist_append_right p4 _); have l3 := (List.Sublist.cons_cons (plA uex) l4).trans (List.sublist_append_right p3 _); have l2 := (List.Sublist.cons_cons (plA eof) l3).trans (List.sublist_append_right p2 _); exact (List.Sublist.cons_cons (plA shb) l2).trans (List.sublist_append_right p1 _)
  have hn : [shb, eof, uex, chk, dic, hdr].Nodup := List.Pairwise.of_map plA (fun a b h e => h (by rw [e])) key; have hperm : [shb, eof, uex, chk, dic, hdr].Perm [eof, shb, uex, hdr, dic, chk] :=
    List.Perm.map (fun i => [shb, eof, uex, chk, dic, hdr].getD i shb) (show [0, 1, 2, 3, 4, 5].Perm [1, 0, 2, 5, 4, 3] by decide)
  refine ⟨eof, shb, uex, hdr, dic, chk, ⟨hs2, hs7, hs6, hs5, hs3, hs1, hs4, fun a ha => ?_, hperm.nodup_iff.1 hn⟩⟩; simp only [List.mem_cons, List.not_mem_nil, or_false] at ha; rcases ha with rfl | rfl | rfl | rfl | rfl | rfl <;> assumption

/-! the arguments -/
section
variable {H : Type} {enc : TypeId × Value → H} {W : World}
theorem bulk_one (d : DataW H) : 1 ≤ Rows.uptoBulk d := by
  cases d with
  | lit l => cases l <;> simp [Rows.uptoBulk]
  | _ => simp [Rows.uptoBulk]
theorem bulk_len (l : List (DataW H)) : l.length ≤ Rows.uptoBulkAll l := by
  induction l with
  | nil => simp [Rows.uptoBulkAll]
  | cons x r ih => have := bulk_one x; simp only [Rows.uptoBulkAll, List.length_cons]; omega
/-- a slice of integers -/
theorem arg_ints {t e : TypeId} {k : IntKind} {b0 : Nat} {v : Value} {d : DataW H} {p : List MemPlace} (ht : Tryz.prog.underlying t = some (.slice e)) (he : Tryz.prog.underlying e = some (.int k)) (hc : Tryz.prog.cellsOf e = 1)
    (hval : Value.okWide Tryz.prog W .any b0 t v) (hd : DataW.Trod enc Tryz.prog W 0 (fun _ => true) true t v d p) (hlt : ∀ q ∈ p, q.block < W.heap.size) :
    ∃ (L : List Int) (q : Option Addr) (cap : Nat), v = .slice q L.length cap ∧ L.length ≤ cap ∧ (∀ n ∈ L, (Lit.int k n).wf = true) ∧ L.length ≤ Rows.uptoBulk d ∧
      (L ≠ [] → ∃ b off c ty fz r, q = some ⟨b, off, none⟩ ∧ AtH (hl W) b (.cells (List.toArray c) ty fz) r ∧ ∀ i (h : i < L.length), c[off + i]? = some (.int k L[i])) ∧
      ∀ W', Still W W' → DataW.Trod enc Tryz.prog W' 0 (fun b => decide (b < W.heap.size)) true t v d p := by
  obtain ⟨a0, len, cap, rfl⟩ := okWide_slice ht hval; obtain ⟨fuel, hf⟩ := hd; rcases open_ints ht he hc hf with ⟨hcs, hx⟩ | ⟨a, len', cap', zs, hcs, _, hle, hmax, hall, hx, hcell, hwf⟩
  · simp only [Value.cells, List.cons.injEq, and_true, Value.slice.injEq] at hcs; obtain ⟨rfl, rfl, rfl⟩ := hcs; simp only [Prod.mk.injEq] at hx; obtain ⟨rfl, rfl⟩ := hx; exact ⟨[], none, 0, rfl, Nat.le_refl _, by simp, Nat.zero_le _, fun h => absurd rfl h, fun W' _ => ⟨1, by simp [DataW.trod, ht, Value.cells]⟩⟩
  · simp only [Value.cells, List.cons.injEq, and_true, Value.slice.injEq] at hcs; obtain ⟨rfl, rfl, rfl⟩ := hcs; simp only [Prod.mk.injEq] at hx; obtain ⟨rfl, rfl⟩ := hx; simp only [if_true] at hall; have htl : (zs.take len).length = len := by rw [List.length_take]; omega
    refine ⟨zs.take len, some a, cap, by rw [htl], by rw [htl]; exact hle, fun n hn => hwf n (List.mem_of_mem_take hn), ?_, fun hne => ?_, fun W' hs => ⟨2, ?_⟩⟩
    · have := bulk_len (lits (H := H) k (zs.take len)); simp only [lits, List.length_map] at this; simp only [Rows.uptoBulk, lits]; omega
    · have hp : 0 < zs.length := by
        rcases Nat.eq_zero_or_pos zs.length with h | h
        · exact absurd (by rw [List.length_eq_zero_iff.1 h, List.take_nil]) hne
        · exact h
      obtain ⟨b, off, rfl, hcc⟩ := Go.ints_at hcell hp; have h0 := hcc 0 hp; obtain ⟨c, ty, fz, hh⟩ : ∃ c ty fz, W.heap[b]? = some (.cells c ty fz) := by
        unfold World.cell? at h0
        split at h0
        · rename_i c ty fz hh; exact ⟨c, ty, fz, hh⟩
        · cases h0
      obtain ⟨r, hr⟩ := atH_cells hh; refine ⟨b, off, c.toList, ty, fz, r, rfl, hr, fun i hi => ?_⟩; have hi2 : i < zs.length := by rw [List.length_take] at hi; omega
      have := hcc i hi2; simp only [World.cell?, hh] at this; rw [List.getD_eq_getElem?_getD, List.getElem?_eq_getElem hi2] at this; simpa using this
    · refine shut_ints 0 ht he hc (Nat.zero_le _) hle hmax ?_ (fun i hi => hs.cell (hcell i hi)) hwf; rcases Nat.eq_zero_or_pos zs.length with h | h
      · split <;> omega
      · rw [if_pos]
        · exact hall
        · exact decide_eq_true (hlt (.cell a.block (a.off + 0)) (by unfold MemPlace.row; exact List.mem_map.2 ⟨0, List.mem_range.2 h, rfl⟩))
end
end Go.Proofs.YtpbahgddoamhgaaGreatDoor
namespace Go.Proofs.YtpbahgddoamhgaaGreatDoor
open Go.Proofs.Tryz
open Go Sx Pu Go.ChangeShapes Go.WideShapes Go.RowKit
set_option maxRecDepth 100000

section
variable {W : World} {L : List Int} {q : Option Addr}
theorem bytes_of (hw : ∀ n ∈ L, (Lit.int .u8 n).wf = true) (hd : L ≠ [] → ∃ b off c ty fz r, q = some ⟨b, off, none⟩ ∧ AtH (hl W) b (.cells (List.toArray c) ty fz) r ∧ ∀ i (h : i < L.length), c[off + i]? = some (.int .u8 L[i])) :
    Dat q (L.map Int.toNat) (hl W) ∧ (∀ x ∈ L.map Int.toNat, x < 256) ∧ (L.map Int.toNat).length = L.length := by
  refine ⟨fun hne => ?_, fun x hx => ?_, List.length_map _⟩
  · obtain ⟨b, off, c, ty, fz, r, h1, h2, h3⟩ := hd (fun e => hne (by rw [e]; rfl)); refine ⟨b, off, c, ty, fz, r, h1, h2, fun i hi => ?_⟩; have hi2 : i < L.length := by simpa using hi
    have hb := bounds_u8 (hw L[i] (List.getElem_mem hi2)); rw [h3 i hi2, List.getElem_map]; show _ = some (Value.int .u8 ((L[i].toNat : Nat) : Int)); rw [Int.toNat_of_nonneg hb.1]
  · obtain ⟨n, hn, rfl⟩ := List.mem_map.1 hx; have := bounds_u8 (hw n hn); omega
theorem ints_of (hw : ∀ n ∈ L, (Lit.int .i64 n).wf = true) (hd : L ≠ [] → ∃ b off c ty fz r, q = some ⟨b, off, none⟩ ∧ AtH (hl W) b (.cells (List.toArray c) ty fz) r ∧ ∀ i (h : i < L.length), c[off + i]? = some (.int .i64 L[i])) :
    DatZ q L (hl W) ∧ ZW L := by
  refine ⟨fun hne => ?_, fun i => ?_⟩
  · obtain ⟨b, off, c, ty, fz, r, h1, h2, h3⟩ := hd (fun e => hne (by rw [e]; rfl)); refine ⟨b, off, c, ty, fz, r, h1, h2, fun i hi => ?_⟩; have hi2 : i < L.length := by simpa using hi
    rw [h3 i hi2, List.getElem_range]; unfold zf; rw [List.getD_eq_getElem?_getD, List.getElem?_eq_getElem hi2]; rfl
  · rcases Nat.lt_or_ge i L.length with h | h
    · have := bounds_i64 (hw L[i] (List.getElem_mem h)); rw [List.getD_eq_getElem?_getD, List.getElem?_eq_getElem h, Option.getD_some]; omega
    · rw [List.getD_eq_getElem?_getD, List.getElem?_eq_none h, Option.getD_none]; decide
end
theorem raw_contract (H : Type) (enc : TypeId × Value → H) (W : World) (base : Nat) (args : Array Value) (ds gs : List (DataW H)) (before : List MemPlace)
    (hval : ∀ (j : Nat) t v, Tryz.f4.params[j]? = some t → args[j]? = some v → Value.okWide Tryz.prog W .any base t v)
    (hW : DataW.Whole enc Tryz.prog Tryz.f4.params.toList Rows.fnRawSpec.vars false W args.toList ds gs before) (hL : laidMetH Tryz.prog Rows.fnRawRow.laid W) :
    Calls Tryz.prog 4 args W fun e W' => ∃ v, e = .returned v ∧ Rows.fnRawSpec.post enc Tryz.prog Tryz.f4 false true false false W args v W' := by
  have hlt := hW.lt; have hW' := hW; obtain ⟨p, q, hA0, hV, rfl, hfz, hnd⟩ := hW; have hA : DataW.TrodAll enc Tryz.prog W 0 (fun _ => true) true Tryz.f4.params.toList args.toList ds p := hA0; rw [Tryz.params4] at hA hval; obtain ⟨v0, d0, rfl, rfl, h0⟩ := trodAll_one hA; obtain ⟨rfl, rfl⟩ := trodVars_none hV; clear hA0; obtain ⟨L, q, cap, rfl, hcap, hwf, _, hdat, hst⟩ := arg_ints underlying22 underlying5 cells5 (hval 0 22 v0 rfl rfl) h0 (fun x hx => hlt x (List.mem_append_left _ hx)); obtain ⟨hb1, hb2, hb3⟩ := bytes_of hwf hdat; obtain ⟨eof, shb, uex, hdr, dic, chk, hG⟩ := laid_facts hL; have hc := fnRaw_spec hG hb1 hb2 (cap := cap) (by rw [hb3]; exact hcap); rw [hb3] at hc; refine (hc W [] W (hp_hl W)).mono ?_; rintro e W' ⟨v, H', rfl, ⟨rfl, Y, hs⟩, hp⟩; have hS := still_of hp hs
  exact ⟨_, rfl, [d0], [], p ++ [], [], p, [], hW', trodAll_mk1 (shut_bool underlying4 true), trodAll_mk1 (hst W' hS), rfl, hS.kept _, fun h => by cases h⟩
theorem damaged_contract (H : Type) (enc : TypeId × Value → H) (W : World) (base : Nat) (args : Array Value) (ds gs : List (DataW H)) (before : List MemPlace)
    (hval : ∀ (j : Nat) t v, Tryz.f3.params[j]? = some t → args[j]? = some v → Value.okWide Tryz.prog W .any base t v)
    (hW : DataW.Whole enc Tryz.prog Tryz.f3.params.toList Rows.fnDamagedSpec.vars false W args.toList ds gs before) (hL : laidMetH Tryz.prog Rows.fnRawRow.laid W) :
    Calls Tryz.prog 3 args W fun e W' => ∃ v, e = .returned v ∧ Rows.fnDamagedSpec.post enc Tryz.prog Tryz.f3 false true false false W args v W' := by
  have hlt := hW.lt; have hW' := hW; obtain ⟨p, q, hA0, hV, rfl, hfz, hnd⟩ := hW; have hA : DataW.TrodAll enc Tryz.prog W 0 (fun _ => true) true Tryz.f3.params.toList args.toList ds p := hA0; rw [Tryz.params3] at hA hval; obtain ⟨v0, vs0, d0, ds0, p0, q0, ha0, rfl, rfl, h0, r0⟩ := trodAll_cons hA; obtain ⟨v1, vs1, d1, ds1, p1, q1, rfl, rfl, rfl, h1, r1⟩ := trodAll_cons r0; obtain ⟨v2, vs2, d2, ds2, p2, q2, rfl, rfl, rfl, h2, r2⟩ := trodAll_cons r1; obtain ⟨v3, vs3, d3, ds3, p3, q3, rfl, rfl, rfl, h3, r3⟩ := trodAll_cons r2; obtain ⟨rfl, rfl, rfl⟩ := trodAll_nil r3; obtain rfl : args = #[v0, v1, v2, v3] := by cases args; simp_all
  obtain ⟨rfl, rfl⟩ := trodVars_none hV; clear hA0; obtain ⟨L0, a0, cap0, rfl, hcap0, hwf0, hbk0, hdat0, hst0⟩ := arg_ints underlying22 underlying5 cells5 (hval 0 22 v0 rfl rfl) h0 (fun x hx => hlt x (by simp [hx])); obtain ⟨L1, a1, cap1, rfl, hcap1, hwf1, hbk1, hdat1, hst1⟩ := arg_ints underlying23 underlying3 cells3 (hval 1 23 v1 rfl rfl) h1 (fun x hx => hlt x (by simp [hx])); obtain ⟨L2, a2, cap2, rfl, hcap2, hwf2, hbk2, hdat2, hst2⟩ := arg_ints underlying23 underlying3 cells3 (hval 2 23 v2 rfl rfl) h2 (fun x hx => hlt x (by simp [hx])); obtain ⟨L3, a3, cap3, rfl, hcap3, hwf3, hbk3, hdat3, hst3⟩ := arg_ints underlying22 underlying5 cells5 (hval 3 22 v3 rfl rfl) h3 (fun x hx => hlt x (by simp [hx])); obtain ⟨b01, b02, b03⟩ := bytes_of hwf0 hdat0; obtain ⟨b31, b32, b33⟩ := bytes_of hwf3 hdat3; obtain ⟨z11, z12⟩ := ints_of hwf1 hdat1; obtain ⟨z21, z22⟩ := ints_of hwf2 hdat2
  obtain ⟨eof, shb, uex, hdr, dic, chk, hG⟩ := laid_facts hL; have hc : CallsL Tryz.prog 3 #[.slice a0 (L0.map Int.toNat).length cap0, .slice a1 L1.length cap1, .slice a2 L2.length cap2, .slice a3 (L3.map Int.toNat).length cap3] (hl W) fun v H' => v = .bool true ∧ ∃ Y, HSub H' (hl W) Y := by
    by_cases hbig : 2147483647 < (L0.map Int.toNat).length ∨ 2147483647 < L1.length ∨ 2147483647 < L2.length ∨ 2147483647 < (L3.map Int.toNat).length
    · exact fnDamaged_big hbig
    · exact fnDamaged_spec hG b01 b02 (by omega) z11 z12 (by omega) z21 (by omega) b31 b32 (by omega)
  rw [b03, b33] at hc; refine (hc W [] W (hp_hl W)).mono ?_; rintro e W' ⟨v, H', rfl, ⟨rfl, Y, hs⟩, hp⟩; have hS := still_of hp hs; exact ⟨_, rfl, _, [], _, [], _, [], hW', trodAll_mk1 (shut_bool underlying4 true), trodAll_cons_mk (hst0 W' hS) (trodAll_cons_mk (hst1 W' hS) (trodAll_cons_mk (hst2 W' hS) (trodAll_cons_mk (hst3 W' hS) trodAll_mk0))), rfl, hS.kept _, fun h => by cases h⟩
end Go.Proofs.YtpbahgddoamhgaaGreatDoor
namespace Go.Proofs.YtpbahgddoamhgaaGreatDoor
open Go Go.ChangeShapes Go.WideShapes Go.ChangeAt Go.RowKit
set_option maxRecDepth 100000

theorem ownK : ownKnob Tryz.prog.godebug = none := by kernel_rfl
abbrev sShb : ByteArray := { data := #[115, 104, 111, 114, 116, 32, 98, 117, 102, 102, 101, 114] }
abbrev sEof : ByteArray := { data := #[69, 79, 70] }
abbrev sUex : ByteArray := { data := #[117, 110, 101, 120, 112, 101, 99, 116, 101, 100, 32, 69, 79, 70] }
abbrev sChk : ByteArray := { data := #[122, 108, 105, 98, 58, 32, 105, 110, 118, 97, 108, 105, 100, 32, 99, 104, 101, 99, 107, 115, 117, 109] }
abbrev sDic : ByteArray := { data := #[122, 108, 105, 98, 58, 32, 105, 110, 118, 97, 108, 105, 100, 32, 100, 105, 99, 116, 105, 111, 110, 97, 114, 121] }
abbrev sHdr : ByteArray := { data := #[122, 108, 105, 98, 58, 32, 105, 110, 118, 97, 108, 105, 100, 32, 104, 101, 97, 100, 101, 114] }
noncomputable def low : Nat := (World.holding Tryz.prog default ⟨#[], #[], []⟩).heap.size
def put1 (c : Array Value) : Obj → Obj
  | .cells _ t frozen => .cells c t frozen
  | o => o
noncomputable def laidWorld (os : Os) : World :=
  let w0 := World.holding Tryz.prog os ⟨#[.cells #[.string sShb] 212, .cells #[.string sEof] 212, .cells #[.string sUex] 212, .cells #[.string sChk] 212, .cells #[.string sDic] 212, .cells #[.string sHdr] 212], #[], []⟩
  let e (i : Nat) : Obj → Obj := put1 #[.iface 184 (.pointer (some ⟨low + i, 0, none⟩))]
  let o : Obj → Obj := put1 #[.int .i64 16, .int .i64 17, .int .i64 18, .int .i64 0, .int .i64 8, .int .i64 7, .int .i64 9, .int .i64 6, .int .i64 10, .int .i64 5, .int .i64 11, .int .i64 4, .int .i64 12, .int .i64 3, .int .i64 13, .int .i64 2, .int .i64 14, .int .i64 1, .int .i64 15]
  let h := ((((((w0.heap.modify 6 (e 0)).modify 0 (e 1)).modify 4 (e 2)).modify 3 (e 3)).modify 2 (e 4)).modify 1 (e 5)).modify 7 o
  { w0 with heap := h }
theorem laid_met1 (os : Os) : laidMet Tryz.prog Rows.fnRawRow.laid ((laidWorld os).forCall (fun _ _ => 0) ⟨#[], #[.slice none 0 0], []⟩).memory :=
  laidMet_of_run' 8 (by kernel_rfl) (by kernel_rfl)
theorem laid_met4 (os : Os) : laidMet Tryz.prog Rows.fnDamagedUptoRow.laid ((laidWorld os).forCall (fun _ _ => 0) ⟨#[], #[.slice none 0 0, .slice none 0 0, .slice none 0 0, .slice none 0 0], []⟩).memory :=
  laidMet_of_run' 8 (by kernel_rfl) (by kernel_rfl)
theorem laidMetH_of {l : List (String × DataW Unit)} {w : World} (hn : (l.filter fun x => x.2.handleName?.isSome) = []) (h : laidMet Tryz.prog l w) : laidMetH Tryz.prog l w := by
  unfold laidMetH; rw [hn]; exact h
theorem noHandles4 : (Rows.fnDamagedUptoRow.laid.filter fun x => x.2.handleName?.isSome) = [] := by kernel_rfl
end Go.Proofs.YtpbahgddoamhgaaGreatDoor
