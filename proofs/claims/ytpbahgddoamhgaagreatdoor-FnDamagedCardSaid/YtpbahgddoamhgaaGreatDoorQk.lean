/- Part 11 of 12 of the proof: the executor, the walks and the plain laws, in build order. -/
import Derived.Test.YtpbahgddoamhgaaGreatDoorQj
import Derived.Laws.BytesArg
namespace Go.Proofs.YtpbahgddoamhgaaGreatDoor
open Go.Proofs.Tryz
open Go Sx Pu
set_option maxRecDepth 10000

section
variable {p : Option Addr} {cap rb : Nat} {L B : List Nat} {D : Hl}

theorem block_spec {po p1 p2 : Option Addr} {co c1 c2 : Nat} {out L1 L2 : List Nat} {Ho : Hl} (s : RS) (hd : Dat p B D) (hB : ∀ x ∈ B, x < 256) (hl : B.length ≤ 135000000000) (hs : s.at_ ≤ 8 * B.length) (hO : OwnV bV 5 po co out Ho) (hol : out.length ≤ 129 * s.at_)
    (hd1 : DatI p1 L1 D) (hL1 : L1.length ≤ 320) (h15 : ∀ x ∈ L1, x ≤ 15) (hd2 : DatI p2 L2 D) (hL2 : L2.length ≤ 320) (h25 : ∀ x ∈ L2, x ≤ 15) :
    CallsL Tryz.prog 27 #[.pointer (some ⟨rb, 0, none⟩), .slice po out.length co, .slice p1 L1.length c1, .slice p2 L2.length c2] (Ho ++ (rb, rdO (.slice p B.length cap) s.at_ s.fail) :: D) fun v H' =>
      ∃ p' c' H1, v = .slice p' (rblock B L1 L2 out s).1.length c' ∧ OwnV bV 5 p' c' (rblock B L1 L2 out s).1 H1 ∧ H' = H1 ++ (rb, rdO (.slice p B.length cap) (rblock B L1 L2 out s).2.at_ (rblock B L1 L2 out s).2.fail) :: D := by
  refine CallsL_of func27 rfl ntmps27 rfl ?_
  try dsimp only [initE, Nat.zero_add]
  refine W_seq fun K1 hK1 => ?_; refine W_region ?_; refine xa rfl rfl ?_; refine WO_nil (sq_n (hK1 _ _ ?_)); refine W_seq fun K2 hK2 => ?_; refine W_region ?_; refine xm rfl rfl ?_; refine wc (e_c rfl rfl rfl call39) rfl rfl rfl (newCode_spec hd1 hL1 h15) (.app (.skip .all)) ?_; rintro _ _ ⟨b1, rfl, rfl⟩; (try simp only [ap4]); refine xm rfl rfl ?_; refine xp (v_ex rfl rfl rfl) rfl ?_; refine xp (v_ex rfl rfl rfl) rfl ?_; refine xa rfl rfl ?_; refine xa rfl rfl ?_; refine WO_nil (sq_n (hK2 _ _ ?_)); refine W.keep [0,1,3,8,9,10] rfl ?_; refine W_seq fun K3 hK3 => ?_; refine W_region ?_; refine xm rfl rfl ?_; refine wc (e_c rfl rfl rfl call39) rfl rfl rfl (newCode_spec (hd2.cons _) hL2 h25) (.app (.skip .all)) ?_; rintro _ _ ⟨b2, rfl, rfl⟩; (try simp only [ap4]); refine xm rfl rfl ?_; refine xp (v_ex rfl rfl rfl) rfl ?_; refine xp (v_ex rfl rfl rfl) rfl ?_; refine xa rfl rfl ?_
  refine xa rfl rfl ?_; refine WO_nil (sq_n (hK3 _ _ ?_)); refine W.keep [0,1,8,9,10,11,12] rfl ?_; refine W_seq_mid (fun E H => ∃ s0 : RS, s0.at_ = s.at_ ∧ rblock B L1 L2 out s = rblk B (ents L1 L1.length) (ents L2 L2.length) (8 * B.length + 1) out s0 ∧ Sub E [(0, .pointer (some ⟨rb, 0, none⟩)), (1, .slice po out.length co), (9, .map (some b1)), (11, .map (some b2))] ∧ H = Ho ++ (rb, rdO (.slice p B.length cap) s0.at_ s0.fail) :: (b2, mapO (ents L2 L2.length)) :: (b1, mapO (ents L1 L1.length)) :: D) ?_ ?_
  · refine W_seq fun K5 hK5 => ?_; have hstart : ∃ s0 : RS, s0.at_ = s.at_ ∧ s0 = (if okCode L1 = true ∧ okCode L2 = true then s else s.bad) := ⟨_, by split <;> rfl, rfl⟩; rcases h1 : okCode L1 with _ | _
    · obtain ⟨s0, hs0, he0⟩ : ∃ s0 : RS, s0.at_ = s.at_ ∧ rblock B L1 L2 out s = rblk B (ents L1 L1.length) (ents L2 L2.length) (8 * B.length + 1) out s0 ∧ s0.fail = true := ⟨s.bad, rfl, by unfold rblock; rw [if_neg (by simp [h1])], rfl⟩; refine W_region ?_; refine xm rfl rfl ?_; refine xp (v_not rfl rfl rfl) rfl ?_; refine xm rfl rfl ?_; refine xno rfl ?_; refine xno rfl ?_; refine xp (v_pt rfl rfl rfl) rfl ?_; refine WO_nil (sq_n (hK5 _ _ ?_)); refine W.keep [0,1,8,9,11,34] rfl ?_; refine W_cond_t rfl ?_; refine W_region ?_; refine xm rfl rfl ?_; refine xn rfl rfl ?_; refine xp (v_fa (q := 2) rfl underlying58 rfl rfl sizeOf4 rfl) rfl ?_; refine wst rfl rfl rfl sizeOf4 rfl rfl rfl ?_; refine WO_nil (sq_n (?_)); exact ⟨s0, hs0, he0.1, ⟨rfl, rfl, rfl, rfl, trivial⟩, by rw [hs0, he0.2]⟩
    · rcases h2 : okCode L2 with _ | _
      · obtain ⟨s0, hs0, he0⟩ : ∃ s0 : RS, s0.at_ = s.at_ ∧ rblock B L1 L2 out s = rblk B (ents L1 L1.length) (ents L2 L2.length) (8 * B.length + 1) out s0 ∧ s0.fail = true := ⟨s.bad, rfl, by unfold rblock; rw [if_neg (by simp [h2])], rfl⟩; refine W_region ?_; refine xm rfl rfl ?_; refine xp (v_not rfl rfl rfl) rfl ?_; refine xm rfl rfl ?_; refine xm rfl rfl ?_; refine xp (v_not rfl rfl rfl) rfl ?_; refine xp (v_pf rfl rfl rfl) rfl ?_; refine WO_nil (sq_n (hK5 _ _ ?_)); refine W.keep [0,1,8,9,11,34] rfl ?_; refine W_cond_t rfl ?_; refine W_region ?_; refine xm rfl rfl ?_; refine xn rfl rfl ?_; refine xp (v_fa (q := 2) rfl underlying58 rfl rfl sizeOf4 rfl) rfl ?_; refine wst rfl rfl rfl sizeOf4 rfl rfl rfl ?_; refine WO_nil (sq_n (?_)); exact ⟨s0, hs0, he0.1, ⟨rfl, rfl, rfl, rfl, trivial⟩, by rw [hs0, he0.2]⟩
      · obtain ⟨s0, hs0, he0⟩ : ∃ s0 : RS, s0.at_ = s.at_ ∧ rblock B L1 L2 out s = rblk B (ents L1 L1.length) (ents L2 L2.length) (8 * B.length + 1) out s0 ∧ s0.fail = s.fail := ⟨s, rfl, by unfold rblock; rw [if_pos ⟨h1, h2⟩], rfl⟩; refine W_region ?_; refine xm rfl rfl ?_; refine xp (v_not rfl rfl rfl) rfl ?_; refine xm rfl rfl ?_; refine xm rfl rfl ?_; refine xp (v_not rfl rfl rfl) rfl ?_; refine xp (v_pf rfl rfl rfl) rfl ?_; refine WO_nil (sq_n (hK5 _ _ ?_)); refine W.keep [0,1,8,9,11,34] rfl ?_; refine W_cond_f rfl ?_; refine W_skip (sq_n (?_)); exact ⟨s0, hs0, he0.1, ⟨rfl, rfl, rfl, rfl, trivial⟩, by rw [hs0, he0.2]⟩
  · rintro E H ⟨s0, hs0, he0, hE, rfl⟩; refine W.env hE ?_; refine W_seq fun K6 hK6 => ?_; refine W_block ?_; refine W_loop (fun m E H => ∃ k out' s' po co Ho, m = k ∧ rblock B L1 L2 out s = rblk B (ents L1 L1.length) (ents L2 L2.length) k out' s' ∧ s'.at_ ≤ 8 * B.length ∧ out'.length ≤ 129 * s'.at_ ∧ 8 * B.length < k + s'.at_ ∧ OwnV bV 5 po co out' Ho ∧ Sub E [(0, .pointer (some ⟨rb, 0, none⟩)), (1, .slice po out'.length co), (9, .map (some b1)), (11, .map (some b2))] ∧ H = Ho ++ (rb, rdO (.slice p B.length cap) s'.at_ s'.fail) :: (b2, mapO (ents L2 L2.length)) :: (b1, mapO (ents L1 L1.length)) :: D) (m := _) (⟨_, out, s0, po, co, Ho, rfl, he0, by omega, by omega, by omega, hO, ⟨rfl, rfl, rfl, rfl, trivial⟩, rfl⟩) ?_; rintro m E H ⟨k, out, s, po, co, Ho, rfl, he, hs, hol, hk, hO, hE, rfl⟩; refine W.env hE ?_; have hk0 : m = m - 1 + 1 := by omega
    rw [hk0] at he hk ⊢; generalize m - 1 = m at *; rw [rblk] at he; obtain ⟨at_, fail⟩ := s; refine W_seq fun K7 hK7 => ?_; refine W_seq fun K8 hK8 => ?_; rcases fail with _ | _
    · refine W_region ?_; refine xm rfl rfl ?_; refine xn rfl rfl ?_; refine xp (v_fa (q := 2) rfl underlying58 rfl rfl sizeOf4 rfl) rfl ?_; refine xv (ld rfl rfl isAgg4) rfl ?_; refine xp (v_not rfl rfl rfl) rfl ?_; refine WO_nil (sq_n (hK8 _ _ ?_)); refine W_cond_t rfl ?_; refine W_skip (sq_n (hK7 _ _ ?_)); refine W_block ?_; refine W_seq fun K9 hK9 => ?_; refine W_region ?_; refine xm rfl rfl ?_; refine xm rfl rfl ?_; refine wc (e_c rfl rfl rfl call40) rfl rfl rfl (symbol_spec (cap := cap) ⟨at_, false⟩ (.there) ((hd.cons _).cons _) hB (by omega) hs) HSub.behind ?_; rintro _ _ ⟨rfl, rfl⟩; (try simp only); refine xa rfl rfl ?_; refine WO_nil (sq_n (hK9 _ _ ?_)); refine W_seq fun K10 hK10 => ?_; refine W_block ?_; refine W_seq fun K11 hK11 => ?_; have q1 := sym_le (l := ents L1 L1.length) hs; have q3 := @sym_ok B (ents L1 L1.length) ⟨at_, false⟩
      rcases hy : sym B (ents L1 L1.length) ⟨at_, false⟩ with ⟨y, a1, f1⟩; rw [hy] at q1 q3; simp only [hy, Bool.false_eq_true, if_false] at he; simp only at q1 q3 hs hol hk; rcases f1 with _ | _
      · have q3 := (q3 rfl).2; refine W_region ?_; refine xm rfl rfl ?_; refine xn rfl rfl ?_; refine xp (v_fa (q := 2) rfl underlying58 rfl rfl sizeOf4 rfl) rfl ?_; refine xv (ld rfl rfl isAgg4) rfl ?_; refine xm rfl rfl ?_; refine xm rfl rfl ?_; refine xp (n_eq rfl rfl rfl) rfl ?_; refine xp (v_pf rfl rfl rfl) rfl ?_; refine xa rfl rfl ?_; refine WO_nil (sq_n (hK11 _ _ ?_)); refine W_cond rfl (fun hc2 => ?_) (fun hc2 => ?_)
        · replace hc2 := of_decide_eq_true hc2; rw [if_pos (.inr hc2)] at he; refine W_seq fun K12 hK12 => ?_; refine W.drop (.pre (.cons .here (.skip (.skip .all)))) ?_; refine W_region ?_; refine xm rfl rfl ?_; refine xa rfl rfl ?_; refine WO_nil (sq_n (hK12 _ _ ?_)); refine W_ret (bl_r (sq_r (bl_r (sq_r (bl_r (sq_r (ret_of (v := _) rfl ?_))))))); rw [he]; exact ⟨_, _, _, rfl, hO, rfl⟩
        · replace hc2 := of_decide_eq_false hc2; rw [if_neg (by simp [hc2])] at he; refine W_seq fun K13 hK13 => ?_; refine W_region ?_; refine xm rfl rfl ?_; refine xp (n_lt rfl rfl rfl) rfl ?_; refine xa rfl rfl ?_; refine WO_nil (sq_n (hK13 _ _ ?_)); refine W_cond rfl (fun hc3 => ?_) (fun hc3 => ?_)
          · replace hc3 := of_decide_eq_true hc3; rw [if_pos hc3] at he; refine W_seq fun K14 hK14 => ?_; refine W_region ?_; refine xm rfl rfl ?_; refine xm rfl rfl ?_; refine xp (n_cvm rfl underlying3 underlying5 rfl uB) rfl ?_; refine wapp1 (bytes := 1) underlying22 sizeOf5 typeInfo5 rfl zeroValue5 rfl hO rfl (fun _ => rfl) (by omega) (by decide) rfl rfl (by rw [Nat.mod_eq_of_lt hc3]) rfl rfl rfl rfl rfl rfl (fun _ => rfl) (fun _ => rfl) ?_; intro vb p3 cap3 Ho3 hO3; refine xa rfl rfl ?_; refine WO_nil (sq_n (hK14 _ _ ?_)); refine W_exit (bl_y rfl (sq_x (bl_x (sq_n (?_))))); first
            | exact ⟨m, by omega, m, _, _, _, _, _, rfl, he, q1, (by simp only [List.length_append, List.length_cons, List.length_nil]; omega), (by simp only; omega), hO3, ⟨rfl, rfl, rfl, rfl, trivial⟩, rfl⟩
            | exact ⟨m, by omega, m, _, ⟨a4, false⟩, _, _, _, rfl, he, q4, (by rw [cpy_length]; simp only; omega), (by simp only; omega), hO2, ⟨rfl, rfl, rfl, rfl, trivial⟩, rfl⟩
          · replace hc3 := of_decide_eq_false hc3; rw [if_neg hc3] at he; refine W_seq fun K15 hK15 => ?_; refine W_region ?_; refine xm rfl rfl ?_; refine xp (n_gt rfl rfl rfl) rfl ?_; refine xa rfl rfl ?_; refine WO_nil (sq_n (hK15 _ _ ?_)); refine W_cond rfl (fun hc4 => ?_) (fun hc4 => ?_)
            · replace hc4 := of_decide_eq_true hc4; rw [if_pos hc4] at he; refine W_seq fun K16 hK16 => ?_; refine W.drop (.pre (.cons .here (.skip (.skip .all)))) ?_; refine W_region ?_; refine xm rfl rfl ?_; refine xn rfl rfl ?_; refine xp (v_fa (q := 2) rfl underlying58 rfl rfl sizeOf4 rfl) rfl ?_; refine wst rfl rfl rfl sizeOf4 rfl rfl rfl ?_; refine WO_nil (sq_n (hK16 _ _ ?_)); refine W_seq fun K17 hK17 => ?_; refine W_region ?_; refine xm rfl rfl ?_; refine xa rfl rfl ?_; refine WO_nil (sq_n (hK17 _ _ ?_)); refine W_ret (bl_r (sq_r (bl_r (sq_r (bl_r (sq_r (ret_of (v := _) rfl ?_))))))); rw [he]; exact ⟨_, _, _, rfl, hO, rfl⟩
            · replace hc4 := of_decide_eq_false hc4; rw [if_neg hc4] at he; refine W_skip (bl_n (sq_n (hK10 _ _ ?_))); refine W_seq fun K18 hK18 => ?_; refine W_region ?_; refine xm rfl rfl ?_; refine wc (e_c rfl rfl rfl call41) rfl rfl rfl (lengthOf_spec y (by omega) (by omega)) HSub.nil ?_; rintro _ _ ⟨rfl, rfl⟩; (try simp only [ap4]); refine xm rfl rfl ?_; refine xp (v_ex rfl rfl rfl) rfl ?_; refine xp (v_ex rfl rfl rfl) rfl ?_; refine xa rfl rfl ?_; refine xa rfl rfl ?_; refine WO_nil (sq_n (hK18 _ _ ?_)); refine W_seq fun K19 hK19 => ?_; have t1 := len_table y (by omega) (by omega); have hx2 := rbits_lt B (lenExtra y) ⟨a1, false⟩; refine W_region ?_; refine xm rfl rfl ?_; refine xm rfl rfl ?_; refine xm rfl rfl ?_; refine wc (e_c rfl rfl rfl call24) rfl rfl rfl (bits_spec (cap := cap) (lenExtra y) ⟨a1, false⟩ ((hd.cons _).cons _) hB (by omega) q1 (by omega)) HSub.behind ?_
              rintro _ _ ⟨rfl, rfl⟩; (try simp only [ap4]); refine xp (n_add rfl rfl rfl kI (by omega)) rfl ?_; refine xa rfl rfl ?_; refine WO_nil (sq_n (hK19 _ _ ?_)); refine W_seq fun K20 hK20 => ?_; have q2 := rbits_le (lenExtra y) (s := ⟨a1, false⟩) q1; have m2 := rbits_mono B (lenExtra y) ⟨a1, false⟩; rcases hz : rbits B (lenExtra y) ⟨a1, false⟩ with ⟨x2, a2, f2⟩; rw [hz] at q2 m2 hx2; simp only [hz] at he; simp only at q2 m2 hx2; refine W_region ?_; refine xm rfl rfl ?_; refine xm rfl rfl ?_; refine wc (e_c rfl rfl rfl call40) rfl rfl rfl (symbol_spec (cap := cap) ⟨a2, f2⟩ (.here) ((hd.cons _).cons _) hB (by omega) q2) HSub.behind ?_; rintro _ _ ⟨rfl, rfl⟩; (try simp only); refine xa rfl rfl ?_; refine WO_nil (sq_n (hK20 _ _ ?_)); refine W_seq fun K21 hK21 => ?_; refine W_seq fun K22 hK22 => ?_; have q3' := sym_le (l := ents L2 L2.length) (s := ⟨a2, f2⟩) q2
              have m3 := symF_mono (B := B) (l := ents L2 L2.length) 15 1 0 ⟨a2, f2⟩; change _ ≤ (sym B (ents L2 L2.length) ⟨a2, f2⟩).2.at_ at m3; rcases hdd : sym B (ents L2 L2.length) ⟨a2, f2⟩ with ⟨d, a3, f3⟩; rw [hdd] at q3' m3; simp only [hdd] at he; simp only at q3' m3; refine W_region ?_; refine xm rfl rfl ?_; refine xp (n_gt rfl rfl rfl) rfl ?_; refine WO_nil (sq_n (hK22 _ _ ?_)); refine W_cond rfl (fun hc5 => ?_) (fun hc5 => ?_)
              · replace hc5 := of_decide_eq_true hc5; rw [if_pos hc5] at he; refine W_seq fun K23 hK23 => ?_; refine W.drop (.pre (.cons .here (.skip (.skip .all)))) ?_; refine W_region ?_; refine xm rfl rfl ?_; refine xn rfl rfl ?_; refine xp (v_fa (q := 2) rfl underlying58 rfl rfl sizeOf4 rfl) rfl ?_; refine wst rfl rfl rfl sizeOf4 rfl rfl rfl ?_; refine WO_nil (sq_n (hK23 _ _ ?_)); refine W_seq fun K24 hK24 => ?_; refine W_region ?_; refine xm rfl rfl ?_; refine xa rfl rfl ?_; refine WO_nil (sq_n (hK24 _ _ ?_)); refine W_ret (sq_r (bl_r (sq_r (bl_r (sq_r (ret_of (v := _) rfl ?_)))))); rw [he]; exact ⟨_, _, _, rfl, hO, rfl⟩
              · replace hc5 := of_decide_eq_false hc5; rw [if_neg hc5] at he; refine W_skip (sq_n (hK21 _ _ ?_)); refine W_seq fun K25 hK25 => ?_; refine W_region ?_; refine xm rfl rfl ?_; refine wc (e_c rfl rfl rfl call42) rfl rfl rfl (distanceOf_spec d (by omega)) HSub.nil ?_; rintro _ _ ⟨rfl, rfl⟩; (try simp only [ap4]); refine xm rfl rfl ?_; refine xp (v_ex rfl rfl rfl) rfl ?_; refine xp (v_ex rfl rfl rfl) rfl ?_; refine xa rfl rfl ?_; refine xa rfl rfl ?_; refine WO_nil (sq_n (hK25 _ _ ?_)); refine W_seq fun K26 hK26 => ?_; have t2 := dist_table d (by omega); have hx4 := rbits_lt B (distExtra d) ⟨a3, f3⟩; refine W_region ?_; refine xm rfl rfl ?_; refine xm rfl rfl ?_; refine xm rfl rfl ?_; refine wc (e_c rfl rfl rfl call24) rfl rfl rfl (bits_spec (cap := cap) (distExtra d) ⟨a3, f3⟩ ((hd.cons _).cons _) hB (by omega) q3' (by omega)) HSub.behind ?_; rintro _ _ ⟨rfl, rfl⟩
                (try simp only [ap4]); refine xp (n_add rfl rfl rfl kI (by omega)) rfl ?_; refine xa rfl rfl ?_; refine WO_nil (sq_n (hK26 _ _ ?_)); refine W_seq fun K27 hK27 => ?_; refine W_seq fun K28 hK28 => ?_; have q4 := rbits_le (distExtra d) (s := ⟨a3, f3⟩) q3'; have m4 := rbits_mono B (distExtra d) ⟨a3, f3⟩; rcases hw : rbits B (distExtra d) ⟨a3, f3⟩ with ⟨x4, a4, f4⟩; rw [hw] at q4 m4 hx4; simp only [hw] at he; simp only at q4 m4 hx4; rcases f4 with _ | _
                · have hf3 := (rbits_ok (B := B) (k := distExtra d) (s := ⟨a3, f3⟩) (by rw [hw])).1; have m3s := (sym_ok (B := B) (l := ents L2 L2.length) (s := ⟨a2, f2⟩) (by rw [hdd]; exact hf3)).2; rw [hdd] at m3s; simp only at m3s; refine W_region ?_; refine xm rfl rfl ?_; refine xn rfl rfl ?_; refine xp (v_fa (q := 2) rfl underlying58 rfl rfl sizeOf4 rfl) rfl ?_; refine xv (ld rfl rfl isAgg4) rfl ?_; refine xm rfl rfl ?_; refine xm rfl rfl ?_; refine xm rfl rfl ?_; refine xp (v_len rfl underlying22 rfl) rfl ?_; refine xp (n_gt rfl rfl rfl) rfl ?_; refine xp (v_pf rfl rfl rfl) rfl ?_; refine WO_nil (sq_n (hK28 _ _ ?_)); refine W_cond rfl (fun hc6 => ?_) (fun hc6 => ?_)
                  · replace hc6 := of_decide_eq_true hc6; rw [if_pos (.inr hc6)] at he; refine W_seq fun K29 hK29 => ?_; refine W.drop (.pre (.cons .here (.skip (.skip .all)))) ?_; refine W_region ?_; refine xm rfl rfl ?_; refine xn rfl rfl ?_; refine xp (v_fa (q := 2) rfl underlying58 rfl rfl sizeOf4 rfl) rfl ?_; refine wst rfl rfl rfl sizeOf4 rfl rfl rfl ?_; refine WO_nil (sq_n (hK29 _ _ ?_)); refine W_seq fun K30 hK30 => ?_; refine W_region ?_; refine xm rfl rfl ?_; refine xa rfl rfl ?_; refine WO_nil (sq_n (hK30 _ _ ?_)); refine W_ret (sq_r (bl_r (sq_r (bl_r (sq_r (ret_of (v := _) rfl ?_)))))); rw [he]; exact ⟨_, _, _, rfl, hO, rfl⟩
                  · replace hc6 := of_decide_eq_false hc6; rw [if_neg (by simp; omega)] at he; refine W_skip (sq_n (hK27 _ _ ?_)); refine W_seq fun K31 hK31 => ?_; refine W_region ?_; refine xm rfl rfl ?_; refine xm rfl rfl ?_; refine WO_nil (sq_n (hK31 _ _ ?_)); refine W_block ?_; refine W_loop (fun m E H => ∃ j po co Ho, j ≤ lenBase y + x2 ∧ m = lenBase y + x2 - j ∧ OwnV bV 5 po co (cpy (distBase d + x4) j out) Ho ∧ Sub E [(0, .pointer (some ⟨rb, 0, none⟩)), (1, .slice po (cpy (distBase d + x4) j out).length co), (9, .map (some b1)), (11, .map (some b2)), (18, iV (distBase d + x4)), (114, iV (lenBase y + x2)), (115, iV j)] ∧ H = Ho ++ (rb, rdO (.slice p B.length cap) a4 false) :: (b2, mapO (ents L2 L2.length)) :: (b1, mapO (ents L1 L1.length)) :: D) (m := _) (⟨0, po, co, Ho, by omega, rfl, hO, ⟨rfl, rfl, rfl, rfl, rfl, rfl, rfl, trivial⟩, rfl⟩) ?_
                    rintro _ E H ⟨j, po, co, Ho, hj, rfl, hO2, hE, rfl⟩; refine W.env hE ?_; have hcl := cpy_length (distBase d + x4) j out; refine W_seq fun K32 hK32 => ?_; refine W_region ?_; refine xp (n_lt rfl rfl rfl) rfl ?_; refine WO_nil (sq_n (hK32 _ _ ?_)); refine W_seq fun K33 hK33 => ?_; refine W_cond rfl (fun hc7 => ?_) (fun hc7 => ?_)
                    · replace hc7 := of_decide_eq_true hc7; refine W_skip (sq_n (hK33 _ _ ?_)); refine W_seq fun K34 hK34 => ?_; refine W_block ?_; have hne : cpy (distBase d + x4) j out ≠ [] := by intro e; rw [e] at hcl; simp only [List.length_nil] at hcl; omega
                      obtain ⟨b3, off, c, ty, fz, r, rfl, hat, hc⟩ := hO2.dat hne; have hlt : (cpy (distBase d + x4) j out).length - (distBase d + x4) < (cpy (distBase d + x4) j out).length := by omega
                      have hg : (cpy (distBase d + x4) j out).getD ((cpy (distBase d + x4) j out).length - (distBase d + x4)) 0 = (cpy (distBase d + x4) j out)[(cpy (distBase d + x4) j out).length - (distBase d + x4)] := by simp [hlt]
                      refine W_region ?_; refine xm rfl rfl ?_; refine xm rfl rfl ?_; refine xm rfl rfl ?_; refine xp (v_len rfl underlying22 rfl) rfl ?_; refine xm rfl rfl ?_; refine xp (n_sub rfl rfl rfl kI (by omega) (by omega)) rfl ?_; refine xp (v_ixs rfl underlying22 sizeOf5 rfl rfl (by omega)) rfl ?_; refine xv (v_ld rfl rfl isAgg5 (ha := hat.appl) (hc _ hlt)) rfl ?_; refine wapp1 (bytes := 1) underlying22 sizeOf5 typeInfo5 rfl zeroValue5 rfl hO2 rfl (fun _ => rfl) (by omega) (by decide) rfl rfl rfl rfl rfl rfl rfl rfl rfl (fun _ => rfl) (fun _ => rfl) ?_; rw [← hg]; intro vb p3 cap3 Ho3 hO3; refine xa rfl rfl ?_; refine WO_nil (bl_n (sq_n (hK34 _ _ ?_))); refine W_region ?_; refine xp (n_add rfl rfl rfl kI (by omega)) rfl ?_; refine xm rfl rfl ?_; refine WO_nil (sq_n (?_))
                      exact ⟨_, by omega, j + 1, _, _, _, by omega, rfl, by rw [cpy_succ]; exact hO3, ⟨rfl, by rw [cpy_succ]; rfl, rfl, rfl, rfl, rfl, rfl, trivial⟩, rfl⟩
                    · replace hc7 := of_decide_eq_false hc7; obtain rfl : j = lenBase y + x2 := by omega
                      refine W_exit (sq_x (sq_x (bl_x (bl_n (sq_n (?_)))))); first
                      | exact ⟨m, by omega, m, _, _, _, _, _, rfl, he, q1, (by simp only [List.length_append, List.length_cons, List.length_nil]; omega), (by simp only; omega), hO3, ⟨rfl, rfl, rfl, rfl, trivial⟩, rfl⟩
                      | exact ⟨m, by omega, m, _, ⟨a4, false⟩, _, _, _, rfl, he, q4, (by rw [cpy_length]; simp only; omega), (by simp only; omega), hO2, ⟨rfl, rfl, rfl, rfl, trivial⟩, rfl⟩
                · refine W_region ?_; refine xm rfl rfl ?_; refine xn rfl rfl ?_; refine xp (v_fa (q := 2) rfl underlying58 rfl rfl sizeOf4 rfl) rfl ?_; refine xv (ld rfl rfl isAgg4) rfl ?_; refine xm rfl rfl ?_; refine xno rfl ?_; refine xno rfl ?_; refine xno rfl ?_; refine xno rfl ?_; refine xp (v_pt rfl rfl rfl) rfl ?_; refine WO_nil (sq_n (hK28 _ _ ?_)); refine W_cond_t rfl ?_; refine W_seq fun K35 hK35 => ?_; refine W.drop (.pre (.cons .here (.skip (.skip .all)))) ?_; refine W_region ?_; refine xm rfl rfl ?_; refine xn rfl rfl ?_; refine xp (v_fa (q := 2) rfl underlying58 rfl rfl sizeOf4 rfl) rfl ?_; refine wst rfl rfl rfl sizeOf4 rfl rfl rfl ?_; refine WO_nil (sq_n (hK35 _ _ ?_)); refine W_seq fun K36 hK36 => ?_; refine W_region ?_; refine xm rfl rfl ?_; refine xa rfl rfl ?_; refine WO_nil (sq_n (hK36 _ _ ?_))
                  refine W_ret (sq_r (bl_r (sq_r (bl_r (sq_r (ret_of (v := _) rfl ?_)))))); rw [he, if_pos (.inl rfl)]; exact ⟨_, _, _, rfl, hO, rfl⟩
      · refine W_region ?_; refine xm rfl rfl ?_; refine xn rfl rfl ?_; refine xp (v_fa (q := 2) rfl underlying58 rfl rfl sizeOf4 rfl) rfl ?_; refine xv (ld rfl rfl isAgg4) rfl ?_; refine xm rfl rfl ?_; refine xno rfl ?_; refine xno rfl ?_; refine xp (v_pt rfl rfl rfl) rfl ?_; refine xa rfl rfl ?_; refine WO_nil (sq_n (hK11 _ _ ?_)); refine W_cond_t rfl ?_; refine W_seq fun K37 hK37 => ?_; refine W.drop (.pre (.cons .here (.skip (.skip .all)))) ?_; refine W_region ?_; refine xm rfl rfl ?_; refine xa rfl rfl ?_; refine WO_nil (sq_n (hK37 _ _ ?_)); refine W_ret (bl_r (sq_r (bl_r (sq_r (bl_r (sq_r (ret_of (v := _) rfl ?_))))))); rw [he, if_pos (.inl rfl)]; exact ⟨_, _, _, rfl, hO, rfl⟩
    · refine W_region ?_; refine xm rfl rfl ?_; refine xn rfl rfl ?_; refine xp (v_fa (q := 2) rfl underlying58 rfl rfl sizeOf4 rfl) rfl ?_; refine xv (ld rfl rfl isAgg4) rfl ?_; refine xp (v_not rfl rfl rfl) rfl ?_; refine WO_nil (sq_n (hK8 _ _ ?_)); refine W_cond_f rfl ?_; refine W_exit (sq_x (sq_x (bl_x (sq_n (hK6 _ _ ?_))))); refine W.keep [1] rfl ?_; refine W_seq fun K38 hK38 => ?_; refine W.drop (.pre (.cons .here (.skip (.skip .all)))) ?_; refine W_region ?_; refine xm rfl rfl ?_; refine xa rfl rfl ?_; refine WO_nil (sq_n (hK38 _ _ ?_)); refine W_ret (ret_of (v := _) rfl ?_); rw [he]; exact ⟨_, _, _, rfl, hO, rfl⟩
end
end Go.Proofs.YtpbahgddoamhgaaGreatDoor
namespace Go.Proofs.YtpbahgddoamhgaaGreatDoor
open Go.Proofs.Tryz
open Go Sx Pu
set_option maxRecDepth 10000

section
variable {p : Option Addr} {cap rb : Nat} {L B : List Nat} {D : Hl}
theorem order_at (i : Nat) (h : i < 19) : (orderL.map iV)[i]? = some (iV (orderL.getD i 0)) ∧ orderL.getD i 0 < 19 := by
  have : ∀ i, i < 19 → (orderL.map iV)[i]? = some (iV (orderL.getD i 0)) ∧ orderL.getD i 0 < 19 := by
    intro i h; have : i = 0 ∨ i = 1 ∨ i = 2 ∨ i = 3 ∨ i = 4 ∨ i = 5 ∨ i = 6 ∨ i = 7 ∨ i = 8 ∨ i = 9 ∨ i = 10 ∨ i = 11 ∨ i = 12 ∨ i = 13 ∨ i = 14 ∨ i = 15 ∨ i = 16 ∨ i = 17 ∨ i = 18 := by omega
    rcases this with rfl | rfl | rfl | rfl | rfl | rfl | rfl | rfl | rfl | rfl | rfl | rfl | rfl | rfl | rfl | rfl | rfl | rfl | rfl <;> exact ⟨rfl, by decide⟩
  exact this i h

theorem dynamic_spec (s : RS) (hd : Dat p B D) (hB : ∀ x ∈ B, x < 256) (hl : B.length ≤ 135000000000) (hs : s.at_ ≤ 8 * B.length) :
    CallsL Tryz.prog 28 #[.pointer (some ⟨rb, 0, none⟩)] ((rb, rdO (.slice p B.length cap) s.at_ s.fail) :: D) fun v H' =>
      ∃ G p1 c1 p2 c2, v = .tuple #[.slice p1 (rdyn B s).lits.length c1, .slice p2 (rdyn B s).dists.length c2] ∧ DatI p1 (rdyn B s).lits G ∧ DatI p2 (rdyn B s).dists G ∧ H' = (rb, rdO (.slice p B.length cap) (rdyn B s).s.at_ (rdyn B s).s.fail) :: (G ++ D) := by
  have a1 := rbits_le 5 hs; have a2 := rbits_le 5 a1; have a3 := rbits_le 4 a2; have c1 := rbits_lt B 5 s; have c2 := rbits_lt B 5 (rbits B 5 s).2; have c3 := rbits_lt B 4 (rbits B 5 (rbits B 5 s).2).2; refine CallsL_of func28 rfl ntmps28 rfl ?_
  try dsimp only [initE, Nat.zero_add]
  refine W_seq fun K1 hK1 => ?_; refine W_region ?_; refine xa rfl rfl ?_; refine xa rfl rfl ?_; refine WO_nil (sq_n (hK1 _ _ ?_)); refine W_seq fun K2 hK2 => ?_; refine W_region ?_; refine xm rfl rfl ?_; refine wc (e_c rfl rfl rfl call24) rfl rfl rfl (bits_spec (cap := cap) 5 s hd hB (by omega) hs (by omega)) HSub.all ?_; rintro _ _ ⟨rfl, rfl⟩; (try simp only [ap4]); refine xp (n_add rfl rfl rfl kI (by omega)) rfl ?_; refine xm rfl rfl ?_; refine wc (e_c rfl rfl rfl call24) rfl rfl rfl (bits_spec (cap := cap) 5 (rbits B 5 s).2 hd hB (by omega) a1 (by omega)) HSub.all ?_; rintro _ _ ⟨rfl, rfl⟩; (try simp only [ap4]); refine xp (n_add rfl rfl rfl kI (by omega)) rfl ?_; refine xm rfl rfl ?_; refine wc (e_c rfl rfl rfl call24) rfl rfl rfl (bits_spec (cap := cap) 4 (rbits B 5 (rbits B 5 s).2).2 hd hB (by omega) a2 (by omega)) HSub.all ?_; rintro _ _ ⟨rfl, rfl⟩; (try simp only [ap4])
  refine xp (n_add rfl rfl rfl kI (by omega)) rfl ?_; refine xa rfl rfl ?_; refine xa rfl rfl ?_; refine xa rfl rfl ?_; refine WO_nil (sq_n (hK2 _ _ ?_)); refine W.keep [0,2,3,4,5,6] rfl ?_; refine W_seq fun K3 hK3 => ?_; refine W_seq fun K4 hK4 => ?_; have he : rdyn B s = rdyn2 B ((rbits B 5 s).1 + 257) ((rbits B 5 (rbits B 5 s).2).1 + 1) ((rbits B 4 (rbits B 5 (rbits B 5 s).2).2).1 + 4) (rbits B 4 (rbits B 5 (rbits B 5 s).2).2).2 := rfl; generalize rbits B 4 (rbits B 5 (rbits B 5 s).2).2 = g3 at *; generalize rbits B 5 (rbits B 5 s).2 = g2 at *; generalize rbits B 5 s = g1 at *; obtain ⟨x3, s3⟩ := g3; simp only at a3 c3 he; have hnl : g1.1 + 257 ≤ 288 := by omega
  have hnd : g2.1 + 1 ≤ 32 := by omega
  have hnc : x3 + 4 ≤ 19 := by omega
  generalize g1.1 + 257 = nl at *; generalize g2.1 + 1 = nd at *; generalize x3 + 4 = nc at *; rw [rdyn2] at he; by_cases h1 : 286 < nl
  · refine W_region ?_; refine xm rfl rfl ?_; refine xp (v_gt rfl rfl rfl (dT (by omega))) rfl ?_; refine xm rfl rfl ?_; refine xno rfl ?_; refine xno rfl ?_; refine xp (v_pt rfl rfl rfl) rfl ?_; refine WO_nil (sq_n (hK4 _ _ ?_)); refine W.keep [0,2,3,4,5,6,30] rfl ?_; refine W_cond_t rfl ?_; refine W_seq fun K5 hK5 => ?_; refine W_region ?_; refine xm rfl rfl ?_; refine xn rfl rfl ?_; refine xp (v_fa (q := 2) rfl underlying58 rfl rfl sizeOf4 rfl) rfl ?_; refine wst rfl rfl rfl sizeOf4 rfl rfl rfl ?_; refine WO_nil (sq_n (hK5 _ _ ?_)); refine W.keep [0,2,3,4,5,6] rfl ?_; refine W_seq fun K6 hK6 => ?_; refine W_region ?_; refine xa rfl rfl ?_; refine xa rfl rfl ?_; refine WO_nil (sq_n (hK6 _ _ ?_)); refine W_ret (sq_r (ret_of (v := _) rfl ?_)); rw [he, if_pos (.inl h1)]; exact ⟨[], none, 0, none, 0, rfl, DatV.nil, DatV.nil, rfl⟩
  · refine W_region ?_; refine xm rfl rfl ?_; refine xp (v_gt rfl rfl rfl (dF (by omega))) rfl ?_; refine xm rfl rfl ?_; refine xm rfl rfl ?_; refine xp (n_gt rfl rfl rfl) rfl ?_; refine xp (v_pf rfl rfl rfl) rfl ?_; refine WO_nil (sq_n (hK4 _ _ ?_)); refine W.keep [0,2,3,4,5,6,30] rfl ?_; refine W_cond rfl (fun hc0 => ?_) (fun hc0 => ?_)
    · replace hc0 := of_decide_eq_true hc0; rw [if_pos (.inr hc0)] at he; refine W_seq fun K7 hK7 => ?_; refine W_region ?_; refine xm rfl rfl ?_; refine xn rfl rfl ?_; refine xp (v_fa (q := 2) rfl underlying58 rfl rfl sizeOf4 rfl) rfl ?_; refine wst rfl rfl rfl sizeOf4 rfl rfl rfl ?_; refine WO_nil (sq_n (hK7 _ _ ?_)); refine W.keep [0,2,3,4,5,6] rfl ?_; refine W_seq fun K8 hK8 => ?_; refine W_region ?_; refine xa rfl rfl ?_; refine xa rfl rfl ?_; refine WO_nil (sq_n (hK8 _ _ ?_)); refine W_ret (sq_r (ret_of (v := _) rfl ?_)); rw [he]; first
      | exact ⟨[], none, 0, none, 0, rfl, DatV.nil, DatV.nil, rfl⟩
      | (refine ⟨Hs, pmv pa ca 0 1, ca - 0, pmv pa ca nl 1, ca - nl, ?_, ?_, ?_, rfl⟩
         · rw [show (List.take nl all).length = nl - 0 by simp; omega, show (List.drop nl all).length = all.length - nl by simp]
         · have := hO.dat.sub (l := 0) (u := nl) (m := ca) (by omega) (by omega); rwa [List.drop_zero] at this
         · have := hO.dat.sub (l := nl) (u := all.length) (m := ca) (by omega) (by omega); rwa [List.take_length] at this)
    · replace hc0 := of_decide_eq_false hc0; rw [if_neg (by omega)] at he; refine W_skip (sq_n (hK3 _ _ ?_)); refine W_seq fun K9 hK9 => ?_; refine W_region ?_; refine ws (v_mk (bytes := 8) rfl underlying23 sizeOf3 typeInfo3 rfl zeroValue3 rfl rfl (by omega) (by omega) rfl rfl) rfl rfl rfl ?_; rintro _ _ ⟨b1, rfl, rfl, _⟩; refine xa rfl rfl ?_; refine WO_nil (sq_n (hK9 _ _ ?_)); refine W_seq fun K10 hK10 => ?_; refine W_seq fun K11 hK11 => ?_; refine W_region ?_; refine wc (e_c rfl rfl rfl call43) rfl rfl rfl (order_spec) (.skip (.skip .all)) ?_; rintro _ _ ⟨bo, rfl, rfl⟩; (try simp only [ap4]); refine xm rfl rfl ?_; refine xp (v_slp rfl underlying23 sizeOf3 rfl .none (.some rfl) .none (by omega) (by omega) (by omega) (by decide)) rfl ?_; refine xp (v_len rfl underlying23 rfl) rfl ?_; refine xm rfl rfl ?_; refine WO_nil (sq_n (hK11 _ _ ?_)); refine W.keep [0,2,3,4,5,7,37,38,39] rfl ?_
      refine W_block ?_; refine W_loop (fun m E H => ∃ i, i ≤ nc ∧ m = nc - i ∧ Sub E [(0, .pointer (some ⟨rb, 0, none⟩)), (4, iV nl), (5, iV nd), (7, .slice (some ⟨b1, 0, none⟩) 19 19), (37, .slice (some ⟨bo, 0, none⟩) nc 19), (38, iV nc), (39, iV i)] ∧ H = (b1, .cells (List.toArray ((rclen B s3 i).1.map iV)) 3 (0, 0)) :: (rb, rdO (.slice p B.length cap) (rclen B s3 i).2.at_ (rclen B s3 i).2.fail) :: (bo, .cells (List.toArray (orderL.map iV)) 3 (0, 0)) :: D) (m := _) (⟨0, by omega, rfl, ⟨rfl, rfl, rfl, rfl, rfl, rfl, rfl, trivial⟩, rfl⟩) ?_; rintro m E H ⟨i, hi, rfl, hE, rfl⟩; refine W.env hE ?_; have hq := rclen_le (s := s3) a3 i; have hql := rclen_length B s3 i; refine W_seq fun K12 hK12 => ?_; refine W_region ?_; refine xp (n_lt rfl rfl rfl) rfl ?_; refine WO_nil (sq_n (hK12 _ _ ?_)); refine W_seq fun K13 hK13 => ?_; refine W_cond rfl (fun hc1 => ?_) (fun hc1 => ?_)
      · replace hc1 := of_decide_eq_true hc1; refine W_skip (sq_n (hK13 _ _ ?_)); refine W_seq fun K14 hK14 => ?_; refine W_block ?_; refine W_seq fun K15 hK15 => ?_; obtain ⟨ho1, ho2⟩ := order_at i (by omega); refine W_region ?_; refine xp (v_ixs rfl underlying23 sizeOf3 rfl rfl (by omega)) rfl ?_; refine xv (v_ld rfl rfl isAgg3 ho1) rfl ?_; refine xa rfl rfl ?_; refine WO_nil (sq_n (hK15 _ _ ?_)); refine W_region ?_; refine xm rfl rfl ?_; refine xm rfl rfl ?_; refine xm rfl rfl ?_; refine wc (e_c rfl rfl rfl call24) rfl rfl rfl (bits_spec (cap := cap) 3 (rclen B s3 i).2 (hd.cons _) hB (by omega) hq (by omega)) (.skip .all) ?_; rintro _ _ ⟨rfl, rfl⟩; (try simp only [ap4]); refine xp (v_ixs rfl underlying23 sizeOf3 rfl rfl (by omega)) rfl ?_; refine wst' rfl rfl rfl sizeOf3 rfl (List.map_set (f := iV)).symm (by simp only [List.length_map]; omega) rfl rfl ?_
        refine WO_nil (bl_n (sq_n (hK14 _ _ ?_))); refine W_region ?_; refine xp (n_add rfl rfl rfl kI (by omega)) rfl ?_; refine xm rfl rfl ?_; refine WO_nil (sq_n (?_)); exact ⟨_, by omega, i + 1, by omega, rfl, ⟨rfl, rfl, rfl, rfl, rfl, rfl, rfl, trivial⟩, rfl⟩
      · replace hc1 := of_decide_eq_false hc1; obtain rfl : i = nc := by omega
        refine W_exit (sq_x (sq_x (bl_x (sq_n (hK10 _ _ ?_))))); refine W.keep [0,4,5,7] rfl ?_; refine W_seq fun K16 hK16 => ?_; have hmem := rclen_mem (B := B) (s := s3) i; rw [rdyn3] at he; generalize rclen B s3 i = q at *; refine W_region ?_; refine xm rfl rfl ?_; refine wc (e_c rfl rfl rfl call39) rfl rfl rfl (newCode_m (L := q.1) (cap := 19) hql datV_row (by omega) (fun x hx => by have := hmem x hx; omega)) (.cons .here (.skip .all)) ?_; rintro _ _ ⟨b2, rfl, rfl⟩; (try simp only [ap4]); refine xm rfl rfl ?_; refine xp (v_ex rfl rfl rfl) rfl ?_; refine xp (v_ex rfl rfl rfl) rfl ?_; refine xa rfl rfl ?_; refine xa rfl rfl ?_; refine WO_nil (sq_n (hK16 _ _ ?_)); refine W.keep [0,4,5,10,11] rfl ?_
        refine W_seq_mid (fun E H => ∃ s0 : RS, s0.at_ = q.2.at_ ∧ rdyn B s = rdyn4 nl nd (rall B (ents q.1 19) (nl + nd) (nl + nd + 1) [] s0) ∧ Sub E [(0, .pointer (some ⟨rb, 0, none⟩)), (4, iV nl), (5, iV nd), (10, .map (some b2))] ∧ ∃ z zo, H = (rb, rdO (.slice p B.length cap) s0.at_ s0.fail) :: (b2, mapO (ents q.1 19)) :: z :: zo :: D) ?_ ?_
        · refine W_seq fun K18 hK18 => ?_; rcases hok : okCode q.1 with _ | _
          · obtain ⟨s0, hs0, he0⟩ : ∃ s0 : RS, s0.at_ = q.2.at_ ∧ rdyn B s = rdyn4 nl nd (rall B (ents q.1 19) (nl + nd) (nl + nd + 1) [] s0) ∧ s0.fail = true := ⟨q.2.bad, rfl, by rw [he, if_neg (by simp [hok])], rfl⟩; refine W_region ?_; refine xm rfl rfl ?_; refine xp (v_not rfl rfl rfl) rfl ?_; refine WO_nil (sq_n (hK18 _ _ ?_)); refine W_cond_t rfl ?_; refine W_region ?_; refine xm rfl rfl ?_; refine xn rfl rfl ?_; refine xp (v_fa (q := 2) rfl underlying58 rfl rfl sizeOf4 rfl) rfl ?_; refine wst rfl rfl rfl sizeOf4 rfl rfl rfl ?_; refine WO_nil (sq_n (?_)); exact ⟨s0, hs0, he0.1, ⟨rfl, rfl, rfl, rfl, trivial⟩, _, _, by rw [hs0, he0.2]⟩
          · obtain ⟨s0, hs0, he0⟩ : ∃ s0 : RS, s0.at_ = q.2.at_ ∧ rdyn B s = rdyn4 nl nd (rall B (ents q.1 19) (nl + nd) (nl + nd + 1) [] s0) ∧ s0.fail = q.2.fail := ⟨q.2, rfl, by rw [he, if_pos hok], rfl⟩; refine W_region ?_; refine xm rfl rfl ?_; refine xp (v_not rfl rfl rfl) rfl ?_; refine WO_nil (sq_n (hK18 _ _ ?_)); refine W_cond_f rfl ?_; refine W_skip (sq_n (?_)); exact ⟨s0, hs0, he0.1, ⟨rfl, rfl, rfl, rfl, trivial⟩, _, _, by rw [hs0, he0.2]⟩
        · rintro E H ⟨s0, hs0, he0, hE, z, zo, rfl⟩; refine W.less hE (.cons .here (.cons .here (.skip (.skip .all)))) ?_; refine W_seq fun K19 hK19 => ?_; refine W_region ?_; refine xa rfl rfl ?_; refine WO_nil (sq_n (hK19 _ _ ?_)); refine W_seq fun K20 hK20 => ?_; refine W_block ?_; refine W_loop (fun m E H => ∃ k all s' pa ca Hs, m = k ∧ rdyn B s = rdyn4 nl nd (rall B (ents q.1 19) (nl + nd) k all s') ∧ s'.at_ ≤ 8 * B.length ∧ all.length ≤ 1000 ∧ (s'.fail = false → nl + nd < all.length + k) ∧ OwnV iV 3 pa ca all Hs ∧ Sub E [(0, .pointer (some ⟨rb, 0, none⟩)), (4, iV nl), (5, iV nd), (10, .map (some b2)), (12, .slice pa all.length ca)] ∧ H = Hs ++ (rb, rdO (.slice p B.length cap) s'.at_ s'.fail) :: (b2, mapO (ents q.1 19)) :: D) (m := _) (⟨_, [], s0, none, 0, [], rfl, he0, by omega, by simp, by intro _; simp, OwnV.nil, ⟨rfl, rfl, rfl, rfl, rfl, trivial⟩, rfl⟩) ?_
          rintro m E H ⟨k, all, s1, pa, ca, Hs, rfl, he, hs1, hal, hk, hO, hE, rfl⟩; refine W.env hE ?_; obtain ⟨at_, fail⟩ := s1; refine W_seq fun K21 hK21 => ?_; refine W_seq fun K22 hK22 => ?_; rcases fail with _ | _
          · refine W_region ?_; refine xm rfl rfl ?_; refine xn rfl rfl ?_; refine xp (v_fa (q := 2) rfl underlying58 rfl rfl sizeOf4 rfl) rfl ?_; refine xv (ld rfl rfl isAgg4) rfl ?_; refine xp (v_not rfl rfl rfl) rfl ?_; refine xm rfl rfl ?_; refine xm rfl rfl ?_; refine xp (v_len rfl underlying23 rfl) rfl ?_; refine xm rfl rfl ?_; refine xm rfl rfl ?_; refine xp (n_add rfl rfl rfl kI (by omega)) rfl ?_; refine xp (n_lt rfl rfl rfl) rfl ?_; refine xp (v_pt rfl rfl rfl) rfl ?_; refine WO_nil (sq_n (hK22 _ _ ?_)); refine W_cond rfl (fun hc3 => ?_) (fun hc3 => ?_)
            · replace hc3 := of_decide_eq_true hc3; have hk := hk rfl; have hk0 : m = m - 1 + 1 := by omega
              rw [hk0] at he hk ⊢; generalize m - 1 = m at *; rw [rall, if_neg (by simp; omega)] at he; refine W_skip (sq_n (hK21 _ _ ?_)); refine W_block ?_; refine W_seq fun K23 hK23 => ?_; refine W_region ?_; refine xm rfl rfl ?_; refine xm rfl rfl ?_; refine wc (e_c rfl rfl rfl call40) rfl rfl rfl (symbol_spec (cap := cap) ⟨at_, false⟩ (.here) (hd.cons _) hB (by omega) hs1) HSub.behind ?_; rintro _ _ ⟨rfl, rfl⟩; (try simp only); refine xa rfl rfl ?_; refine WO_nil (sq_n (hK23 _ _ ?_)); refine W_seq fun K24 hK24 => ?_; refine W_seq fun K25 hK25 => ?_; have q1 := sym_le (l := ents q.1 19) hs1; have hy19 := sym_lt (B := B) (L := q.1) (j := 19) (by omega) ⟨at_, false⟩; rcases hy : sym B (ents q.1 19) ⟨at_, false⟩ with ⟨y, a1, f1⟩; rw [hy] at q1 hy19; simp only [hy] at he; simp only at q1 hy19 hs1 hk; refine W_region ?_; refine xm rfl rfl ?_; refine xp (n_lt rfl rfl rfl) rfl ?_
              refine WO_nil (sq_n (hK25 _ _ ?_)); refine W_cond rfl (fun hc4 => ?_) (fun hc4 => ?_)
              · replace hc4 := of_decide_eq_true hc4; rw [if_pos hc4] at he; refine W_seq fun K26 hK26 => ?_; refine W_region ?_; refine xm rfl rfl ?_; refine xm rfl rfl ?_; refine wapp1 (bytes := 8) underlying23 sizeOf3 typeInfo3 rfl zeroValue3 rfl hO rfl (fun _ => rfl) (by omega) (by decide) rfl rfl rfl rfl rfl rfl rfl rfl rfl (fun _ => rfl) (fun _ => rfl) ?_; intro vb p3 cap3 Ho3 hO3; refine xa rfl rfl ?_; refine WO_nil (sq_n (hK26 _ _ ?_)); refine W_exit (sq_x (bl_x (sq_n (?_)))); first
                | exact ⟨m, by omega, m, _, _, _, _, _, rfl, he, q1, (by simp only [List.length_append, List.length_cons, List.length_nil]; omega), (by intro _; simp only [List.length_append, List.length_cons, List.length_nil]; omega), hO3, ⟨rfl, rfl, rfl, rfl, rfl, trivial⟩, rfl⟩
                | exact ⟨m, by omega, m, _, _, _, _, _, rfl, he2, hat2, (by simp only [List.length_append, List.length_replicate]; omega), (by intro hf; have := hmany hf; simp only [List.length_append, List.length_replicate]; omega), hO2, ⟨rfl, rfl, rfl, rfl, rfl, trivial⟩, rfl⟩
              · replace hc4 := of_decide_eq_false hc4; rw [if_neg hc4] at he; refine W_skip (sq_n (hK24 _ _ ?_)); refine W_seq fun K27 hK27 => ?_; refine W_region ?_; refine xa rfl rfl ?_; refine xa rfl rfl ?_; refine WO_nil (sq_n (hK27 _ _ ?_)); refine W_seq_mid (fun E H => ∃ what many s2, rdyn B s = rdyn4 nl nd (rall B (ents q.1 19) (nl + nd) m (all ++ List.replicate many what) s2) ∧ s2.at_ ≤ 8 * B.length ∧ many ≤ 150 ∧ (s2.fail = false → 1 ≤ many) ∧ Sub E [(0, .pointer (some ⟨rb, 0, none⟩)), (4, iV nl), (5, iV nd), (10, .map (some b2)), (12, .slice pa all.length ca), (14, iV what), (15, iV many)] ∧ H = Hs ++ (rb, rdO (.slice p B.length cap) s2.at_ s2.fail) :: (b2, mapO (ents q.1 19)) :: D) ?_ ?_
                · refine W_block ?_; refine W_seq fun K29 hK29 => ?_; by_cases h16 : y = 16
                  · refine W_region ?_; refine xm rfl rfl ?_; refine xp (v_eq rfl rfl rfl (dT (by omega))) rfl ?_; refine xm rfl rfl ?_; refine xm rfl rfl ?_; refine xp (v_len rfl underlying23 rfl) rfl ?_; refine xp (n_eq rfl rfl rfl) rfl ?_; refine xp (v_pt rfl rfl rfl) rfl ?_; refine xa rfl rfl ?_; refine WO_nil (sq_n (hK29 _ _ ?_)); refine W_cond rfl (fun hc5 => ?_) (fun hc5 => ?_)
                    · replace hc5 := of_decide_eq_true hc5; rw [if_pos ⟨h16, hc5⟩] at he; refine W_region ?_; refine xm rfl rfl ?_; refine xn rfl rfl ?_; refine xp (v_fa (q := 2) rfl underlying58 rfl rfl sizeOf4 rfl) rfl ?_; refine wst rfl rfl rfl sizeOf4 rfl rfl rfl ?_; refine WO_nil (bl_n (sq_n (?_))); first
                      | exact ⟨0, 0, RS.bad ⟨a1, f1⟩, by rw [he]; simp, q1, by omega, (by intro h; simp at h), ⟨rfl, rfl, rfl, rfl, rfl, rfl, rfl, trivial⟩, rfl⟩
                      | exact ⟨_, _, _, he, rbits_le _ q1, by omega, (by intro _; omega), ⟨rfl, rfl, rfl, rfl, rfl, rfl, rfl, trivial⟩, rfl⟩
                    · replace hc5 := of_decide_eq_false hc5; rw [if_neg (fun h => hc5 h.2), if_pos h16] at he; refine W_seq fun K30 hK30 => ?_; refine W_region ?_; refine xm rfl rfl ?_; refine xp (v_eq rfl rfl rfl (dT (by omega))) rfl ?_; refine xa rfl rfl ?_; refine WO_nil (sq_n (hK30 _ _ ?_)); refine W_cond_t rfl ?_; have hx := rbits_lt B 2 ⟨a1, f1⟩; have hne : all ≠ [] := by intro e; subst e; exact hc5 rfl
                      obtain ⟨b3, off, c, ty, fz, r, rfl, hat, hc⟩ := hO.dat hne; have hlt : all.length - 1 < all.length := by omega
                      have hg : all.getD (all.length - 1) 0 = all[all.length - 1] := by simp [hlt]
                      rw [hg] at he; refine W_draw mixed ?_; refine ap 0 rfl (by kernel_rfl) (v_mv rfl rfl) rfl rfl rfl ?_; refine ap 1 rfl (by kernel_rfl) (v_mv rfl rfl) rfl rfl rfl ?_; refine ap 2 rfl (by kernel_rfl) (v_len rfl underlying23 rfl) rfl rfl rfl ?_; refine ap 3 rfl (by kernel_rfl) (n_sub rfl rfl rfl kI (by omega) (by omega)) rfl rfl rfl ?_; refine ap 4 rfl (by kernel_rfl) (v_ixs rfl underlying23 sizeOf3 rfl rfl (by omega)) rfl rfl rfl ?_; refine ap 6 rfl (by kernel_rfl) (v_mv rfl rfl) rfl rfl rfl ?_; refine WA_two (k := 5) (j := 7) rfl rfl (by kernel_rfl) ?_ ?_
                      · refine xv (v_ld rfl rfl isAgg3 (ha := hat.appl) (hc _ hlt)) rfl ?_; refine WO_nil (sq_n ?_); refine WA_one (k := 7) rfl (by kernel_rfl) ?_; refine wc (e_c rfl rfl rfl call24) rfl rfl rfl (bits_spec (cap := cap) 2 ⟨a1, f1⟩ (hd.cons _) hB (by omega) q1 (by omega)) HSub.behind ?_; rintro _ _ ⟨rfl, rfl⟩; (try simp only); refine WO_nil (sq_n ?_); refine WA_k (fuel := 0) [8,9,10] rfl (by kernel_rfl) ?_; refine yp rfl (n_add rfl rfl rfl kI (by omega)) rfl ?_; refine yp rfl (v_as rfl rfl) rfl ?_; refine yp rfl (v_as rfl rfl) rfl ?_; refine WK_nil ?_; refine WA_nil (by kernel_rfl) (bl_n (sq_n (?_))); first
                        | exact ⟨0, 0, RS.bad ⟨a1, f1⟩, by rw [he]; simp, q1, by omega, (by intro h; simp at h), ⟨rfl, rfl, rfl, rfl, rfl, rfl, rfl, trivial⟩, rfl⟩
                        | exact ⟨_, _, _, he, rbits_le _ q1, by omega, (by intro _; omega), ⟨rfl, rfl, rfl, rfl, rfl, rfl, rfl, trivial⟩, rfl⟩
                      · refine wc (e_c rfl rfl rfl call24) rfl rfl rfl (bits_spec (cap := cap) 2 ⟨a1, f1⟩ (hd.cons _) hB (by omega) q1 (by omega)) HSub.behind ?_; rintro _ _ ⟨rfl, rfl⟩; (try simp only); refine WO_nil (sq_n ?_); refine WA_k (fuel := 0) [5,8,9,10] rfl (by kernel_rfl) ?_; refine yv rfl (v_ld rfl rfl isAgg3 (ha := hat.appl) (hc _ hlt)) rfl ?_; refine yp rfl (n_add rfl rfl rfl kI (by omega)) rfl ?_; refine yp rfl (v_as rfl rfl) rfl ?_; refine yp rfl (v_as rfl rfl) rfl ?_; refine WK_nil ?_; refine WA_nil (by kernel_rfl) (bl_n (sq_n (?_))); first
                        | exact ⟨0, 0, RS.bad ⟨a1, f1⟩, by rw [he]; simp, q1, by omega, (by intro h; simp at h), ⟨rfl, rfl, rfl, rfl, rfl, rfl, rfl, trivial⟩, rfl⟩
                        | exact ⟨_, _, _, he, rbits_le _ q1, by omega, (by intro _; omega), ⟨rfl, rfl, rfl, rfl, rfl, rfl, rfl, trivial⟩, rfl⟩
                  · refine W_region ?_; refine xm rfl rfl ?_; refine xp (v_eq rfl rfl rfl (dF (by omega))) rfl ?_; refine xm rfl rfl ?_; refine xno rfl ?_; refine xno rfl ?_; refine xno rfl ?_; refine xp (v_pf rfl rfl rfl) rfl ?_; refine xa rfl rfl ?_; refine WO_nil (sq_n (hK29 _ _ ?_)); refine W_cond_f rfl ?_; refine W_seq fun K31 hK31 => ?_; rw [if_neg (fun h => h16 h.1), if_neg h16] at he; refine W_region ?_; refine xm rfl rfl ?_; refine xp (v_eq rfl rfl rfl (dF (by omega))) rfl ?_; refine xa rfl rfl ?_; refine WO_nil (sq_n (hK31 _ _ ?_)); refine W_cond_f rfl ?_; refine W_seq fun K32 hK32 => ?_; refine W_region ?_; refine xm rfl rfl ?_; refine xp (n_eq rfl rfl rfl) rfl ?_; refine xa rfl rfl ?_; refine WO_nil (sq_n (hK32 _ _ ?_)); refine W_cond rfl (fun hc7 => ?_) (fun hc7 => ?_)
                    · replace hc7 := of_decide_eq_true hc7; rw [if_pos hc7] at he; have hx := rbits_lt B 3 ⟨a1, f1⟩; refine W_region ?_; refine xm rfl rfl ?_; refine wc (e_c rfl rfl rfl call24) rfl rfl rfl (bits_spec (cap := cap) 3 ⟨a1, f1⟩ (hd.cons _) hB (by omega) q1 (by omega)) HSub.behind ?_; rintro _ _ ⟨rfl, rfl⟩; (try simp only); refine xp (n_add rfl rfl rfl kI (by omega)) rfl ?_; refine xa rfl rfl ?_; refine WO_nil (bl_n (sq_n (?_))); first
                      | exact ⟨0, 0, RS.bad ⟨a1, f1⟩, by rw [he]; simp, q1, by omega, (by intro h; simp at h), ⟨rfl, rfl, rfl, rfl, rfl, rfl, rfl, trivial⟩, rfl⟩
                      | exact ⟨_, _, _, he, rbits_le _ q1, by omega, (by intro _; omega), ⟨rfl, rfl, rfl, rfl, rfl, rfl, rfl, trivial⟩, rfl⟩
                    · replace hc7 := of_decide_eq_false hc7; rw [if_neg hc7] at he; have hx := rbits_lt B 7 ⟨a1, f1⟩; refine W_region ?_; refine xm rfl rfl ?_; refine wc (e_c rfl rfl rfl call24) rfl rfl rfl (bits_spec (cap := cap) 7 ⟨a1, f1⟩ (hd.cons _) hB (by omega) q1 (by omega)) HSub.behind ?_; rintro _ _ ⟨rfl, rfl⟩; (try simp only); refine xp (n_add rfl rfl rfl kI (by omega)) rfl ?_; refine xa rfl rfl ?_; refine WO_nil (bl_n (sq_n (?_))); first
                      | exact ⟨0, 0, RS.bad ⟨a1, f1⟩, by rw [he]; simp, q1, by omega, (by intro h; simp at h), ⟨rfl, rfl, rfl, rfl, rfl, rfl, rfl, trivial⟩, rfl⟩
                      | exact ⟨_, _, _, he, rbits_le _ q1, by omega, (by intro _; omega), ⟨rfl, rfl, rfl, rfl, rfl, rfl, rfl, trivial⟩, rfl⟩
                · rintro E H ⟨what, many, s2, he2, hat2, hml, hmany, hE, rfl⟩; refine W.env hE ?_; refine W_seq fun K33 hK33 => ?_; refine W_region ?_; refine xm rfl rfl ?_; refine xm rfl rfl ?_; refine WO_nil (sq_n (hK33 _ _ ?_)); refine W_block ?_; refine W_loop (fun m E H => ∃ j pa ca Hs, j ≤ many ∧ m = many - j ∧ OwnV iV 3 pa ca (all ++ List.replicate j what) Hs ∧ Sub E [(0, .pointer (some ⟨rb, 0, none⟩)), (4, iV nl), (5, iV nd), (10, .map (some b2)), (12, .slice pa (all ++ List.replicate j what).length ca), (14, iV what), (113, iV many), (114, iV j)] ∧ H = Hs ++ (rb, rdO (.slice p B.length cap) s2.at_ s2.fail) :: (b2, mapO (ents q.1 19)) :: D) (m := _) (⟨0, pa, ca, Hs, by omega, rfl, by simpa using hO, ⟨rfl, rfl, rfl, rfl, (by rw [List.replicate_zero, List.append_nil]; rfl), rfl, rfl, rfl, trivial⟩, rfl⟩) ?_; rintro _ E H ⟨j, pa, ca, Hs, hj, rfl, hO2, hE, rfl⟩; refine W.env hE ?_
                  have hrl : (all ++ List.replicate j what).length = all.length + j := by simp
                  refine W_seq fun K34 hK34 => ?_; refine W_region ?_; refine xp (n_lt rfl rfl rfl) rfl ?_; refine WO_nil (sq_n (hK34 _ _ ?_)); refine W_seq fun K35 hK35 => ?_; refine W_cond rfl (fun hc8 => ?_) (fun hc8 => ?_)
                  · replace hc8 := of_decide_eq_true hc8; refine W_skip (sq_n (hK35 _ _ ?_)); refine W_seq fun K36 hK36 => ?_; refine W_block ?_; refine W_region ?_; refine xm rfl rfl ?_; refine xm rfl rfl ?_; refine wapp1 (bytes := 8) underlying23 sizeOf3 typeInfo3 rfl zeroValue3 rfl hO2 rfl (fun _ => rfl) (by omega) (by decide) rfl rfl rfl rfl rfl rfl rfl rfl rfl (fun _ => rfl) (fun _ => rfl) ?_; intro vb p3 cap3 Ho3 hO3; refine xa rfl rfl ?_; refine WO_nil (bl_n (sq_n (hK36 _ _ ?_))); refine W_region ?_; refine xp (n_add rfl rfl rfl kI (by omega)) rfl ?_; refine xm rfl rfl ?_; refine WO_nil (sq_n (?_)); have e9 : all ++ List.replicate j what ++ [what] = all ++ List.replicate (j + 1) what := by rw [List.append_assoc, ← List.replicate_succ']
                    rw [e9] at hO3 ⊢; exact ⟨_, by omega, j + 1, _, _, _, by omega, rfl, hO3, ⟨rfl, rfl, rfl, rfl, rfl, rfl, rfl, rfl, trivial⟩, rfl⟩
                  · replace hc8 := of_decide_eq_false hc8; obtain rfl : j = many := by omega
                    refine W_exit (sq_x (sq_x (bl_x (bl_n (sq_n (?_)))))); first
                    | exact ⟨m, by omega, m, _, _, _, _, _, rfl, he, q1, (by simp only [List.length_append, List.length_cons, List.length_nil]; omega), (by intro _; simp only [List.length_append, List.length_cons, List.length_nil]; omega), hO3, ⟨rfl, rfl, rfl, rfl, rfl, trivial⟩, rfl⟩
                    | exact ⟨m, by omega, m, _, _, _, _, _, rfl, he2, hat2, (by simp only [List.length_append, List.length_replicate]; omega), (by intro hf; have := hmany hf; simp only [List.length_append, List.length_replicate]; omega), hO2, ⟨rfl, rfl, rfl, rfl, rfl, trivial⟩, rfl⟩
            · replace hc3 := of_decide_eq_false hc3; rw [rall_end (.inr (by omega)), rdyn4] at he; refine W_exit (sq_x (sq_x (bl_x (sq_n (hK20 _ _ ?_))))); refine W.keep [0,4,5,12] rfl ?_; refine W_seq fun K37 hK37 => ?_; refine W_seq fun K38 hK38 => ?_; refine W_region ?_; refine xm rfl rfl ?_; refine xn rfl rfl ?_; refine xp (v_fa (q := 2) rfl underlying58 rfl rfl sizeOf4 rfl) rfl ?_; refine xv (ld rfl rfl isAgg4) rfl ?_; refine xm rfl rfl ?_; refine xm rfl rfl ?_; refine xp (v_len rfl underlying23 rfl) rfl ?_; refine xm rfl rfl ?_; refine xm rfl rfl ?_; refine xp (n_add rfl rfl rfl kI (by omega)) rfl ?_; refine xp (n_ne rfl rfl rfl) rfl ?_; refine xp (v_pf rfl rfl rfl) rfl ?_; refine WO_nil (sq_n (hK38 _ _ ?_)); refine W.keep [0,4,12,132] rfl ?_; refine W_cond rfl (fun hc9 => ?_) (fun hc9 => ?_)
              · replace hc9 := of_decide_eq_true hc9; rw [if_pos (.inr hc9)] at he; refine W.drop (HSub.app (.cons .here (.skip .all))) ?_; refine W_seq fun K39 hK39 => ?_; refine W_region ?_; refine xm rfl rfl ?_; refine xn rfl rfl ?_; refine xp (v_fa (q := 2) rfl underlying58 rfl rfl sizeOf4 rfl) rfl ?_; refine wst rfl rfl rfl sizeOf4 rfl rfl rfl ?_; refine WO_nil (sq_n (hK39 _ _ ?_)); refine W.keep [4,12] rfl ?_; refine W_seq fun K40 hK40 => ?_; refine W_region ?_; refine xa rfl rfl ?_; refine xa rfl rfl ?_; refine WO_nil (sq_n (hK40 _ _ ?_)); refine W_ret (sq_r (ret_of (v := _) rfl ?_)); rw [he]; first
                | exact ⟨[], none, 0, none, 0, rfl, DatV.nil, DatV.nil, rfl⟩
                | (refine ⟨Hs, pmv pa ca 0 1, ca - 0, pmv pa ca nl 1, ca - nl, ?_, ?_, ?_, rfl⟩
                   · rw [show (List.take nl all).length = nl - 0 by simp; omega, show (List.drop nl all).length = all.length - nl by simp]
                   · have := hO.dat.sub (l := 0) (u := nl) (m := ca) (by omega) (by omega); rwa [List.drop_zero] at this
                   · have := hO.dat.sub (l := nl) (u := all.length) (m := ca) (by omega) (by omega); rwa [List.take_length] at this)
              · replace hc9 := of_decide_eq_false hc9; rw [if_neg (by simp; omega)] at he; refine W_skip (sq_n (hK37 _ _ ?_)); refine W_seq fun K41 hK41 => ?_; have hcl := hO.capl; refine W.drop (.cons (AtR.app .here) (.pre (.skip .all))) ?_; refine W_draw mixed ?_; refine WA_k (fuel := 0) [0,1,2,3,4,5,6,7] rfl (by kernel_rfl) ?_; refine ym rfl rfl rfl ?_; refine ym rfl rfl rfl ?_; refine yp rfl (v_slp rfl underlying23 sizeOf3 rfl .none (.some rfl) .none (by omega) (by omega) (by omega) (by decide)) rfl ?_; refine ym rfl rfl rfl ?_; refine ym rfl rfl rfl ?_; refine yp rfl (v_slp rfl underlying23 sizeOf3 rfl .none .none (.some rfl) (by omega) (by omega) (by omega) (by decide)) rfl ?_; refine yp rfl (v_as rfl rfl) rfl ?_; refine yp rfl (v_as rfl rfl) rfl ?_; refine WK_nil ?_; refine WA_nil (by kernel_rfl) (sq_n (hK41 _ _ ?_)); refine W.keep [2,3] rfl ?_
                refine W_ret (ret_of (v := _) rfl ?_); rw [he]; first
                | exact ⟨[], none, 0, none, 0, rfl, DatV.nil, DatV.nil, rfl⟩
                | (refine ⟨Hs, pmv pa ca 0 1, ca - 0, pmv pa ca nl 1, ca - nl, ?_, ?_, ?_, rfl⟩
                   · rw [show (List.take nl all).length = nl - 0 by simp; omega, show (List.drop nl all).length = all.length - nl by simp]
                   · have := hO.dat.sub (l := 0) (u := nl) (m := ca) (by omega) (by omega); rwa [List.drop_zero] at this
                   · have := hO.dat.sub (l := nl) (u := all.length) (m := ca) (by omega) (by omega); rwa [List.take_length] at this)
          · refine W_region ?_; refine xm rfl rfl ?_; refine xn rfl rfl ?_; refine xp (v_fa (q := 2) rfl underlying58 rfl rfl sizeOf4 rfl) rfl ?_; refine xv (ld rfl rfl isAgg4) rfl ?_; refine xp (v_not rfl rfl rfl) rfl ?_; refine xm rfl rfl ?_; refine xno rfl ?_; refine xno rfl ?_; refine xno rfl ?_; refine xno rfl ?_; refine xno rfl ?_; refine xno rfl ?_; refine xp (v_pf rfl rfl rfl) rfl ?_; refine WO_nil (sq_n (hK22 _ _ ?_)); refine W_cond_f rfl ?_; refine W_exit (sq_x (sq_x (bl_x (sq_n (hK20 _ _ ?_))))); refine W.keep [0,4,5,12] rfl ?_; refine W_seq fun K42 hK42 => ?_; refine W_seq fun K43 hK43 => ?_; rw [rall_end (.inl rfl), rdyn4, if_pos (.inl rfl)] at he; refine W.drop (HSub.app (.cons .here (.skip .all))) ?_; refine W_region ?_; refine xm rfl rfl ?_; refine xn rfl rfl ?_; refine xp (v_fa (q := 2) rfl underlying58 rfl rfl sizeOf4 rfl) rfl ?_; refine xv (ld rfl rfl isAgg4) rfl ?_
            refine xm rfl rfl ?_; refine xno rfl ?_; refine xno rfl ?_; refine xno rfl ?_; refine xno rfl ?_; refine xno rfl ?_; refine xno rfl ?_; refine xp (v_pt rfl rfl rfl) rfl ?_; refine WO_nil (sq_n (hK43 _ _ ?_)); refine W.keep [0,4,12,132] rfl ?_; refine W_cond_t rfl ?_; refine W_seq fun K44 hK44 => ?_; refine W_region ?_; refine xm rfl rfl ?_; refine xn rfl rfl ?_; refine xp (v_fa (q := 2) rfl underlying58 rfl rfl sizeOf4 rfl) rfl ?_; refine wst rfl rfl rfl sizeOf4 rfl rfl rfl ?_; refine WO_nil (sq_n (hK44 _ _ ?_)); refine W.keep [4,12] rfl ?_; refine W_seq fun K45 hK45 => ?_; refine W_region ?_; refine xa rfl rfl ?_; refine xa rfl rfl ?_; refine WO_nil (sq_n (hK45 _ _ ?_)); refine W_ret (sq_r (ret_of (v := _) rfl ?_)); rw [he]; first
            | exact ⟨[], none, 0, none, 0, rfl, DatV.nil, DatV.nil, rfl⟩
            | (refine ⟨Hs, pmv pa ca 0 1, ca - 0, pmv pa ca nl 1, ca - nl, ?_, ?_, ?_, rfl⟩
               · rw [show (List.take nl all).length = nl - 0 by simp; omega, show (List.drop nl all).length = all.length - nl by simp]
               · have := hO.dat.sub (l := 0) (u := nl) (m := ca) (by omega) (by omega); rwa [List.drop_zero] at this
               · have := hO.dat.sub (l := nl) (u := all.length) (m := ca) (by omega) (by omega); rwa [List.take_length] at this)
end
end Go.Proofs.YtpbahgddoamhgaaGreatDoor
namespace Go.Proofs.YtpbahgddoamhgaaGreatDoor
open Go.Proofs.Tryz
open Go Sx Pu
set_option maxRecDepth 10000

section
variable {p : Option Addr} {cap rb : Nat} {L B : List Nat} {D : Hl}
/-- what Inflate gives back -/
def InfR (r : Option (List Nat × Nat)) (v : Value) (G : Hl) : Prop := match r with
  | none => v = .tuple #[.slice none 0 0, .int .i64 0, .bool false]
  | some (out, used) => ∃ p c, v = .tuple #[.slice p out.length c, .int .i64 (used : Nat), .bool true] ∧ Dat p out G

theorem inflate_spec (hcap : B.length ≤ cap) (hd : Dat p B D) (hB : ∀ x ∈ B, x < 256) (hl : B.length ≤ 135000000000) :
    CallsL Tryz.prog 11 #[.slice p B.length cap, .slice none 0 0] D fun v H' => ∃ G, InfR (rinflate B) v G ∧ H' = G ++ D := by
  obtain ⟨R, hR⟩ : ∃ R, R = rinf B (8 * B.length + 2) [] 0 ⟨0, false⟩ := ⟨_, rfl⟩; have hri : rinflate B = (if R.2.fail = true then none else some (R.1, (ralign R.2).at_ / 8)) := by unfold rinflate; rw [hR]
  refine CallsL_of func11 rfl ntmps11 rfl ?_
  try dsimp only [initE, Nat.zero_add]
  refine W_seq fun K1 hK1 => ?_; refine W_region ?_; refine xa rfl rfl ?_; refine xa rfl rfl ?_; refine xa rfl rfl ?_; refine WO_nil (sq_n (hK1 _ _ ?_)); refine W_seq fun K2 hK2 => ?_; refine W_region ?_; refine xm rfl rfl ?_; refine xp (v_any (.agg #[.slice p B.length cap, .int .i64 0, .bool false]) rfl rfl (by intro w; kernel_rfl)) rfl ?_; refine wf (v_bxa rfl rfl) rfl rfl rfl ?_; intro rb _; refine xa rfl rfl ?_; refine WO_nil (sq_n (hK2 _ _ ?_)); refine W.keep [1,4,5,6,7] rfl ?_; refine W_seq fun K3 hK3 => ?_; refine W_seq fun K4 hK4 => ?_; refine W_region ?_; refine xm rfl rfl ?_; refine xp (v_len rfl underlying22 rfl) rfl ?_; refine xp (v_gt rfl rfl rfl (dF (by omega))) rfl ?_; refine WO_nil (sq_n (hK4 _ _ ?_)); refine W_cond_f rfl ?_; refine W_skip (sq_n (hK3 _ _ ?_)); refine W.keep [1,4,5,6,7] rfl ?_; refine W_seq fun K5 hK5 => ?_; refine W_region ?_
  refine ws (v_bs #[] 5 0 rfl rfl (by intro w; kernel_rfl)) rfl rfl rfl ?_; rintro _ _ ⟨bo, rfl, rfl, _⟩; refine xm rfl rfl ?_; refine wapp (bytes := 1) rfl underlying22 underlying22 sizeOf5 typeInfo5 rfl zeroValue5 rfl rfl rfl (OwnV.empty (f := bV) (b := bo)) rfl (M := []) DatV.nil rfl (fun _ => rfl) (by simp) (by simp) rfl rfl rfl ?_; intro po co Ho hO; refine xa rfl rfl ?_; refine WO_nil (sq_n (hK5 _ _ ?_)); refine W.keep [1,4,5,6,7,8] rfl ?_; refine W_seq fun K6 hK6 => ?_; refine W_seq fun K7 hK7 => ?_; refine W_region ?_; refine xa rfl rfl ?_; refine WO_nil (sq_n (hK7 _ _ ?_)); refine W_block ?_
  refine W_loop (fun m E H => ∃ k out last s' po co Ho, m = k ∧ R = rinf B k out last s' ∧ s'.at_ ≤ 8 * B.length ∧ out.length ≤ 129 * s'.at_ ∧ last < 2 ∧ (s'.fail = false → 8 * B.length + 1 < k + s'.at_) ∧ OwnV bV 5 po co out Ho ∧ Sub E [(1, .slice none 0 0), (7, .pointer (some ⟨rb, 0, none⟩)), (8, .slice po out.length co), (9, iV last)] ∧ H = Ho ++ (rb, rdO (.slice p B.length cap) s'.at_ s'.fail) :: D) (m := _) (⟨_, [], 0, ⟨0, false⟩, po, co, Ho, rfl, hR, Nat.zero_le _, by simp, by omega, by intro _; simp, hO, ⟨rfl, rfl, rfl, rfl, trivial⟩, rfl⟩) ?_; rintro m E H ⟨k, out, last, s, po, co, Ho, rfl, he, hs, hol, hla, hk, hO, hE, rfl⟩; refine W.env hE ?_; obtain ⟨at_, fail⟩ := s; refine W_seq fun K8 hK8 => ?_; refine W_seq fun K9 hK9 => ?_; by_cases hl0 : last = 0
  · subst hl0; rcases fail with _ | _
    · have hk := hk rfl; have hk0 : m = m - 1 + 1 := by omega
      rw [hk0] at he hk ⊢; generalize m - 1 = m at *; rw [rinf, if_neg (by simp)] at he; refine W_region ?_; refine xm rfl rfl ?_; refine xp (v_eq rfl rfl rfl (dT (by omega))) rfl ?_; refine xm rfl rfl ?_; refine xm rfl rfl ?_; refine xn rfl rfl ?_; refine xp (v_fa (q := 2) rfl underlying58 rfl rfl sizeOf4 rfl) rfl ?_; refine xv (ld rfl rfl isAgg4) rfl ?_; refine xp (v_not rfl rfl rfl) rfl ?_; refine xp (v_pt rfl rfl rfl) rfl ?_; refine WO_nil (sq_n (hK9 _ _ ?_)); refine W_cond_t rfl ?_; refine W_skip (sq_n (hK8 _ _ ?_)); refine W_block ?_; refine W_seq fun K10 hK10 => ?_; refine W_region ?_; refine xm rfl rfl ?_; refine wc (e_c rfl rfl rfl call23) rfl rfl rfl (bit_s (cap := cap) ⟨at_, false⟩ hd hB (by omega) hs) HSub.behind ?_; rintro _ _ ⟨rfl, rfl⟩; (try simp only); refine xa rfl rfl ?_; refine WO_nil (sq_n (hK10 _ _ ?_)); refine W_seq fun K11 hK11 => ?_
      have g1 := rbit_le (B := B) (s := ⟨at_, false⟩) hs; have g2 := @rbit_ok B ⟨at_, false⟩; have g3 := rbit_mono B ⟨at_, false⟩; have hbl := rbit_lt B ⟨at_, false⟩; generalize rbit B ⟨at_, false⟩ = q at *; simp only at g2 g3; refine W_region ?_; refine xm rfl rfl ?_; refine wc (e_c rfl rfl rfl call24) rfl rfl rfl (bits_spec (cap := cap) 2 q.2 hd hB (by omega) g1 (by omega)) HSub.behind ?_; rintro _ _ ⟨rfl, rfl⟩; (try simp only [ap4]); refine xa rfl rfl ?_; refine WO_nil (sq_n (hK11 _ _ ?_)); refine W_seq fun K12 hK12 => ?_; have g4 := rbits_le (B := B) 2 g1; have g5 := @rbits_ok B 2 q.2; have g6 := rbits_mono B 2 q.2; rcases hz : rbits B 2 q.2 with ⟨kind, s2⟩; rw [hz] at g4 g5 g6 he; simp only at g4 g5 g6 he hs hol hk; obtain ⟨f1, f2, f3⟩ := rone_facts (B := B) (out := out) kind g4 (by omega)
      have hok : (rone B kind out s2).2.fail = false → at_ < (rone B kind out s2).2.at_ := fun h => by
        have := g5 (rone_ok h); have := (g2 this.1).2.1; omega
      refine W_region ?_; refine xm rfl rfl ?_; refine WO_nil (sq_n (hK12 _ _ ?_)); refine W_block ?_; refine W_seq fun K13 hK13 => ?_; refine W_region ?_; refine xp (n_eq rfl rfl rfl) rfl ?_; refine xa rfl rfl ?_; refine WO_nil (sq_n (hK13 _ _ ?_)); refine W_cond rfl (fun hc2 => ?_) (fun hc2 => ?_)
      · replace hc2 := of_decide_eq_true hc2; subst hc2; refine W_region ?_; refine xm rfl rfl ?_; refine xm rfl rfl ?_; refine wc (e_c rfl rfl rfl call25) rfl rfl rfl (stored_spec (cap := cap) s2 hcap hd hB (by omega) g4 hO (by omega)) HSub.all ?_; rintro _ _ ⟨p3, c3, Ho3, rfl, hO3, rfl⟩; (try simp only [ap4]); refine xa rfl rfl ?_; refine WO_nil (bl_n (bl_n (sq_n (?_)))); exact ⟨m, by omega, m, _, _, _, _, _, _, rfl, he, f1, f3, hbl, (by intro hf; have := hok hf; omega), hO3, ⟨rfl, rfl, rfl, rfl, trivial⟩, (by first | rfl | simp only [hfd])⟩
      · replace hc2 := of_decide_eq_false hc2; refine W_seq fun K14 hK14 => ?_; refine W_region ?_; refine xp (n_eq rfl rfl rfl) rfl ?_; refine xa rfl rfl ?_; refine WO_nil (sq_n (hK14 _ _ ?_)); refine W_cond rfl (fun hc3 => ?_) (fun hc3 => ?_)
        · replace hc3 := of_decide_eq_true hc3; subst hc3; refine W_seq fun K15 hK15 => ?_; refine W_region ?_; refine wc (e_c rfl rfl rfl call26) rfl rfl rfl (fixed_spec) HSub.nil ?_; rintro _ G ⟨p1, c1, p2, c2, rfl, hf1, hf2⟩; (try simp only [ap4]); refine xm rfl rfl ?_; refine xp (v_ex rfl rfl rfl) rfl ?_; refine xp (v_ex rfl rfl rfl) rfl ?_; refine xa rfl rfl ?_; refine xa rfl rfl ?_; refine WO_nil (sq_n (hK15 _ _ ?_)); refine W_region ?_; refine xm rfl rfl ?_; refine xm rfl rfl ?_; refine xm rfl rfl ?_; refine xm rfl rfl ?_; refine wc (e_c rfl rfl rfl call27) rfl rfl rfl (block_spec (cap := cap) (D := D ++ G) s2 (hd.appl _) hB (by omega) g4 hO (by omega) (L1 := fixL) (c1 := c1) (hf1.app _) (by decide) (by decide) (L2 := fixD) (c2 := c2) (hf2.app _) (by decide) (by decide)) HSub.all ?_; rintro _ _ ⟨p3, c3, Ho3, rfl, hO3, rfl⟩; (try simp only [ap4])
          refine WO_drop (.pre (.cons .here .front)) ?_; refine xa rfl rfl ?_; refine WO_nil (bl_n (bl_n (sq_n (?_)))); exact ⟨m, by omega, m, _, _, _, _, _, _, rfl, he, f1, f3, hbl, (by intro hf; have := hok hf; omega), hO3, ⟨rfl, rfl, rfl, rfl, trivial⟩, (by first | rfl | simp only [hfd])⟩
        · replace hc3 := of_decide_eq_false hc3; refine W_seq fun K16 hK16 => ?_; refine W_region ?_; refine xp (n_eq rfl rfl rfl) rfl ?_; refine xa rfl rfl ?_; refine WO_nil (sq_n (hK16 _ _ ?_)); refine W_cond rfl (fun hc4 => ?_) (fun hc4 => ?_)
          · replace hc4 := of_decide_eq_true hc4; subst hc4; have hr2 : rone B 2 out s2 = if (rdyn B s2).s.fail = true then (out, (rdyn B s2).s) else rblock B (rdyn B s2).lits (rdyn B s2).dists out (rdyn B s2).s := rfl; refine W_seq fun K17 hK17 => ?_; refine W_region ?_; refine xm rfl rfl ?_; refine wc (e_c rfl rfl rfl call28) rfl rfl rfl (dynamic_spec (cap := cap) s2 hd hB (by omega) g4) HSub.behind ?_; rintro _ _ ⟨G, p1, c1, p2, c2, rfl, hf1, hf2, rfl⟩; (try simp only); refine xm rfl rfl ?_; refine xp (v_ex rfl rfl rfl) rfl ?_; refine xp (v_ex rfl rfl rfl) rfl ?_; refine xa rfl rfl ?_; refine xa rfl rfl ?_; refine WO_nil (sq_n (hK17 _ _ ?_)); refine W_seq fun K18 hK18 => ?_; obtain ⟨u1, u2, u3, u4, u5, u6⟩ := rdyn_facts (B := B) (s := s2) g4; rcases hfd : (rdyn B s2).s.fail with _ | _
            · rw [if_neg (by simp [hfd])] at hr2; refine W_region ?_; refine xm rfl rfl ?_; refine xn rfl rfl ?_; refine xp (v_fa (q := 2) rfl underlying58 rfl rfl sizeOf4 rfl) rfl ?_; refine xv (ld rfl rfl isAgg4) rfl ?_; refine xp (v_not rfl rfl rfl) rfl ?_; refine WO_nil (sq_n (hK18 _ _ ?_)); refine W_cond_t rfl ?_; refine W_region ?_; refine xm rfl rfl ?_; refine xm rfl rfl ?_; refine xm rfl rfl ?_; refine xm rfl rfl ?_; refine wc (e_c rfl rfl rfl call27) rfl rfl rfl (block_spec (cap := cap) (D := G ++ D) (rdyn B s2).s (hd.app _) hB (by omega) u1 hO (by omega) (c1 := c1) (hf1.appl _) (by omega) u5 (c2 := c2) (hf2.appl _) (by omega) u6) (by rw [hfd]; exact HSub.all) ?_; rintro _ _ ⟨p3, c3, Ho3, rfl, hO3, rfl⟩; (try simp only [ap4]); rw [← hr2] at hO3 ⊢; refine WO_drop (.pre (.cons .here .behind)) ?_; refine xa rfl rfl ?_; refine WO_nil (bl_n (bl_n (sq_n (?_))))
              exact ⟨m, by omega, m, _, _, _, _, _, _, rfl, he, f1, f3, hbl, (by intro hf; have := hok hf; omega), hO3, ⟨rfl, rfl, rfl, rfl, trivial⟩, (by first | rfl | simp only [hfd])⟩
            · rw [if_pos hfd] at hr2; rw [hr2] at he f1 f2 f3 hok; have hO3 := hO; refine W.drop (.pre (.cons .here .behind)) ?_; skip; refine W_region ?_; refine xm rfl rfl ?_; refine xn rfl rfl ?_; refine xp (v_fa (q := 2) rfl underlying58 rfl rfl sizeOf4 rfl) rfl ?_; refine xv (ld rfl rfl isAgg4) rfl ?_; refine xp (v_not rfl rfl rfl) rfl ?_; refine WO_nil (sq_n (hK18 _ _ ?_)); refine W_cond_f rfl ?_; refine W_skip (bl_n (bl_n (sq_n (?_)))); exact ⟨m, by omega, m, _, _, _, _, _, _, rfl, he, f1, f3, hbl, (by intro hf; have := hok hf; omega), hO3, ⟨rfl, rfl, rfl, rfl, trivial⟩, (by first | rfl | simp only [hfd])⟩
          · replace hc4 := of_decide_eq_false hc4; have hr2 : rone B kind out s2 = (out, s2.bad) := by unfold rone; rw [if_neg hc2, if_neg hc3, if_neg hc4]
            rw [hr2] at he f1 f2 f3 hok; have hO3 := hO; refine W_region ?_; refine xm rfl rfl ?_; refine xn rfl rfl ?_; refine xp (v_fa (q := 2) rfl underlying58 rfl rfl sizeOf4 rfl) rfl ?_; refine wst rfl rfl rfl sizeOf4 rfl rfl rfl ?_; refine WO_nil (bl_n (bl_n (sq_n (?_)))); exact ⟨m, by omega, m, _, _, _, _, _, _, rfl, he, f1, f3, hbl, (by intro hf; have := hok hf; omega), hO3, ⟨rfl, rfl, rfl, rfl, trivial⟩, (by first | rfl | simp only [hfd])⟩
    · rw [rinf_end (.inr rfl)] at he; refine W_region ?_; refine xm rfl rfl ?_; refine xp (v_eq rfl rfl rfl (dT (by omega))) rfl ?_; refine xm rfl rfl ?_; refine xm rfl rfl ?_; refine xn rfl rfl ?_; refine xp (v_fa (q := 2) rfl underlying58 rfl rfl sizeOf4 rfl) rfl ?_; refine xv (ld rfl rfl isAgg4) rfl ?_; refine xp (v_not rfl rfl rfl) rfl ?_; refine xp (v_pt rfl rfl rfl) rfl ?_; refine WO_nil (sq_n (hK9 _ _ ?_)); refine W_cond_f rfl ?_; refine W_exit (sq_x (sq_x (bl_x (sq_n (hK6 _ _ ?_))))); refine W.keep [1,7,8] rfl ?_; refine W_seq fun K19 hK19 => ?_; refine W_seq fun K20 hK20 => ?_; refine W_region ?_; refine xm rfl rfl ?_; refine xn rfl rfl ?_; refine xp (v_fa (q := 2) rfl underlying58 rfl rfl sizeOf4 rfl) rfl ?_; refine xv (ld rfl rfl isAgg4) rfl ?_; refine WO_nil (sq_n (hK20 _ _ ?_)); refine W.keep [1,7,8,82] rfl ?_; refine W_cond_t rfl ?_; refine W_seq fun K21 hK21 => ?_
      refine W_region ?_; refine xa rfl rfl ?_; refine xa rfl rfl ?_; refine xa rfl rfl ?_; refine WO_nil (sq_n (hK21 _ _ ?_)); refine W_ret (sq_r (ret_of (v := _) rfl ?_)); refine ⟨Ho ++ [(rb, rdO (.slice p B.length cap) at_ true)], ?_, by simp⟩; rw [hri, he]; exact rfl
  · rw [rinf_end (.inl hl0)] at he; refine W_region ?_; refine xm rfl rfl ?_; refine xp (v_eq rfl rfl rfl (dF (by omega))) rfl ?_; refine xm rfl rfl ?_; refine xno rfl ?_; refine xno rfl ?_; refine xno rfl ?_; refine xno rfl ?_; refine xno rfl ?_; refine xp (v_pf rfl rfl rfl) rfl ?_; refine WO_nil (sq_n (hK9 _ _ ?_)); refine W_cond_f rfl ?_; refine W_exit (sq_x (sq_x (bl_x (sq_n (hK6 _ _ ?_))))); refine W.keep [1,7,8] rfl ?_; refine W_seq fun K22 hK22 => ?_; refine W_seq fun K23 hK23 => ?_; rcases fail with _ | _
    · refine W_region ?_; refine xm rfl rfl ?_; refine xn rfl rfl ?_; refine xp (v_fa (q := 2) rfl underlying58 rfl rfl sizeOf4 rfl) rfl ?_; refine xv (ld rfl rfl isAgg4) rfl ?_; refine WO_nil (sq_n (hK23 _ _ ?_)); refine W.keep [1,7,8,82] rfl ?_; refine W_cond_f rfl ?_; refine W_skip (sq_n (hK22 _ _ ?_)); refine W_seq fun K24 hK24 => ?_; refine W_region ?_; refine xm rfl rfl ?_; refine wc (e_c rfl rfl rfl call29) rfl rfl rfl (align_spec (D := D) (by omega)) HSub.behind ?_; rintro _ _ rfl; (try simp only); refine WO_nil (sq_n (hK24 _ _ ?_)); refine W.keep [1,7,8] rfl ?_; refine W_seq fun K25 hK25 => ?_; have hcl := hO.capl; have hra := ralign_le (B := B) (s := ⟨at_, false⟩) hs; refine W_draw mixed ?_; refine WA_k (fuel := 0) [0,1,2,3,4,5,6,7,8,9,10,11] rfl (by kernel_rfl) ?_; refine ym rfl rfl rfl ?_; refine ym rfl rfl rfl ?_; refine yp rfl (v_len rfl underlying22 rfl) rfl ?_
      refine yp rfl (v_slp rfl underlying22 sizeOf5 rfl .none .none (.some rfl) (by omega) (by omega) (by omega) (by decide)) rfl ?_; refine ym rfl rfl rfl ?_; refine yp rfl (v_nil rfl rfl) rfl ?_; refine yp rfl (v_fa (q := 1) rfl underlying58 rfl rfl sizeOf3 rfl) rfl ?_; refine yv rfl (ld rfl rfl isAgg3) rfl ?_; refine yp rfl (n_quo rfl rfl rfl kI (by omega) (by omega)) rfl ?_; refine yp rfl (v_as rfl rfl) rfl ?_; refine yp rfl (v_as rfl rfl) rfl ?_; refine yp rfl (v_as rfl rfl) rfl ?_; refine WK_nil ?_; refine WA_nil (by kernel_rfl) (sq_n (hK25 _ _ ?_)); refine W.keep [4,5,6] rfl ?_; refine W_ret (ret_of (v := _) rfl ?_); refine ⟨Ho ++ [(rb, rdO (.slice p B.length cap) (ralign ⟨at_, false⟩).at_ false)], ?_, by simp⟩; rw [hri, he]; refine ⟨pmv po co 0 1, co - 0, rfl, ?_⟩; have hcl := hO.capl; have := hO.dat.sub (l := 0) (u := out.length) (m := co) (by omega) (by omega)
      rw [List.take_length, List.drop_zero] at this; exact this.appl _
    · refine W_region ?_; refine xm rfl rfl ?_; refine xn rfl rfl ?_; refine xp (v_fa (q := 2) rfl underlying58 rfl rfl sizeOf4 rfl) rfl ?_; refine xv (ld rfl rfl isAgg4) rfl ?_; refine WO_nil (sq_n (hK23 _ _ ?_)); refine W.keep [1,7,8,82] rfl ?_; refine W_cond_t rfl ?_; refine W_seq fun K26 hK26 => ?_; refine W_region ?_; refine xa rfl rfl ?_; refine xa rfl rfl ?_; refine xa rfl rfl ?_; refine WO_nil (sq_n (hK26 _ _ ?_)); refine W_ret (sq_r (ret_of (v := _) rfl ?_)); refine ⟨Ho ++ [(rb, rdO (.slice p B.length cap) at_ true)], ?_, by simp⟩; rw [hri, he]; exact rfl
end
end Go.Proofs.YtpbahgddoamhgaaGreatDoor
namespace Go.Proofs.YtpbahgddoamhgaaGreatDoor
open Go.Proofs.Tryz
open Go Sx Pu
set_option maxRecDepth 10000

namespace Pu
/-- two bytes that a stream may begin with -/
def hd2 (a b : Nat) : Prop := a % 16 = 8 ∧ a / 16 ≤ 7 ∧ (a * 256 + b) % 31 = 0
instance (a b : Nat) : Decidable (hd2 a b) := inferInstanceAs (Decidable (_ ∧ _))
def be4 (n : Nat) : List Nat := [n / 16777216 % 256, n / 65536 % 256, n / 256 % 256, n % 256]
def asks (S : List Nat) : Nat × Bool := if 6 ≤ S.length ∧ S.getD 1 0 / 32 % 2 = 1 then (num4 S 2, true) else (0, false)
theorem num4_drop (S : List Nat) (i j : Nat) : num4 (S.drop i) j = num4 S (i + j) := by
  unfold num4; simp only [List.getD_eq_getElem?_getD, List.getElem?_drop, Nat.add_assoc]
theorem num4_lt {S : List Nat} (h : ∀ x ∈ S, x < 256) (i : Nat) : num4 S i < 4294967296 := by
  have a := getD_256 h i; have b := getD_256 h (i + 1); have c := getD_256 h (i + 2); have d := getD_256 h (i + 3); unfold num4; omega
theorem be4_lt (n : Nat) : ∀ x ∈ be4 n, x < 256 := by
  intro x hx; simp only [be4, List.mem_cons, List.not_mem_nil, or_false] at hx; omega
end Pu
section
variable {D : Hl} {p : Option Addr} {cap a b n m : Nat} {S : List Nat}
theorem isHeader_spec (ha : a < 256) (hb : b < 256) : CallsL Tryz.prog 13 #[bV a, bV b] D fun v H' => v = .bool (decide (hd2 a b)) ∧ H' = D := by
  refine CallsL_of func13 rfl ntmps13 rfl ?_
  try dsimp only [initE, Nat.zero_add]
  refine W_seq fun K1 hK1 => ?_; refine W_region ?_; refine xa rfl rfl ?_; refine WO_nil (sq_n (hK1 _ _ ?_)); refine W_seq fun K2 hK2 => ?_; by_cases h1 : a % 2 ^ 4 = 8
  · by_cases h2 : a / 2 ^ 4 ≤ 7
    · refine W_region ?_; refine xm rfl rfl ?_; refine xp (n_mask 4 rfl rfl rfl kB (by omega) (by decide) (by decide)) rfl ?_; refine xp (v_eq rfl rfl rfl (dT (by omega))) rfl ?_; refine xm rfl rfl ?_; refine xm rfl rfl ?_; refine xp (n_shr rfl rfl rfl (by decide)) rfl ?_; refine xp (v_le rfl rfl rfl (dT (by omega))) rfl ?_; refine xp (v_pt rfl rfl rfl) rfl ?_; refine xm rfl rfl ?_; refine xm rfl rfl ?_; refine xp (n_cv rfl underlying5 underlying3 rfl kI (by omega)) rfl ?_; refine xp (n_mul rfl rfl rfl kI (by omega)) rfl ?_; refine xm rfl rfl ?_; refine xp (n_cv rfl underlying5 underlying3 rfl kI (by omega)) rfl ?_; refine xp (n_add rfl rfl rfl kI (by omega)) rfl ?_; refine xp (n_rem rfl rfl rfl (by omega)) rfl ?_; refine xp (n_eq rfl rfl rfl) rfl ?_; refine xp (v_pt rfl rfl rfl) rfl ?_; refine xa rfl rfl ?_; refine WO_nil (sq_n (hK2 _ _ ?_)); refine W.keep [4] rfl ?_
      refine W_ret (ret_of (v := _) rfl ?_); refine ⟨?_, rfl⟩; show Value.bool (decide ((a * 256 + b) % 31 = 0)) = _; congr 1; exact decide_eq_decide.2 ⟨fun h => ⟨h1, h2, h⟩, fun h => h.2.2⟩
    · refine W_region ?_; refine xm rfl rfl ?_; refine xp (n_mask 4 rfl rfl rfl kB (by omega) (by decide) (by decide)) rfl ?_; refine xp (v_eq rfl rfl rfl (dT (by omega))) rfl ?_; refine xm rfl rfl ?_; refine xm rfl rfl ?_; refine xp (n_shr rfl rfl rfl (by decide)) rfl ?_; refine xp (v_le rfl rfl rfl (dF (by omega))) rfl ?_; refine xp (v_pt rfl rfl rfl) rfl ?_; refine xm rfl rfl ?_; refine xno rfl ?_; refine xno rfl ?_; refine xno rfl ?_; refine xno rfl ?_; refine xno rfl ?_; refine xno rfl ?_; refine xno rfl ?_; refine xno rfl ?_; refine xp (v_pf rfl rfl rfl) rfl ?_; refine xa rfl rfl ?_; refine WO_nil (sq_n (hK2 _ _ ?_)); refine W.keep [4] rfl ?_; refine W_ret (ret_of (v := _) rfl ?_); exact ⟨by rw [decide_eq_false fun h : hd2 a b => h2 h.2.1], rfl⟩
  · refine W_region ?_; refine xm rfl rfl ?_; refine xp (n_mask 4 rfl rfl rfl kB (by omega) (by decide) (by decide)) rfl ?_; refine xp (v_eq rfl rfl rfl (dF (by omega))) rfl ?_; refine xm rfl rfl ?_; refine xno rfl ?_; refine xno rfl ?_; refine xno rfl ?_; refine xp (v_pf rfl rfl rfl) rfl ?_; refine xm rfl rfl ?_; refine xno rfl ?_; refine xno rfl ?_; refine xno rfl ?_; refine xno rfl ?_; refine xno rfl ?_; refine xno rfl ?_; refine xno rfl ?_; refine xno rfl ?_; refine xp (v_pf rfl rfl rfl) rfl ?_; refine xa rfl rfl ?_; refine WO_nil (sq_n (hK2 _ _ ?_)); refine W.keep [4] rfl ?_; refine W_ret (ret_of (v := _) rfl ?_); exact ⟨by rw [decide_eq_false fun h : hd2 a b => h1 h.1], rfl⟩
theorem four_spec (_hn : n < 4294967296) : CallsL Tryz.prog 14 #[wV n] D fun v H' => ∃ b, v = .slice (some ⟨b, 0, none⟩) 4 4 ∧ H' = (b, .cells (List.toArray ((be4 n).map bV)) 5 (0, 0)) :: D := by
  refine CallsL_of func14 rfl ntmps14 rfl ?_
  try dsimp only [initE, Nat.zero_add]
  refine W_seq fun K1 hK1 => ?_; refine W_region ?_; refine xa rfl rfl ?_; refine WO_nil (sq_n (hK1 _ _ ?_)); refine W_seq fun K2 hK2 => ?_; refine W_region ?_; refine xm rfl rfl ?_; refine xp (n_shr rfl rfl rfl (by decide)) rfl ?_; refine xp (n_cvm rfl underlying29 underlying5 rfl uB) rfl ?_; refine xm rfl rfl ?_; refine xp (n_shr rfl rfl rfl (by decide)) rfl ?_; refine xp (n_cvm rfl underlying29 underlying5 rfl uB) rfl ?_; refine xm rfl rfl ?_; refine xp (n_shr rfl rfl rfl (by decide)) rfl ?_; refine xp (n_cvm rfl underlying29 underlying5 rfl uB) rfl ?_; refine xm rfl rfl ?_; refine xp (n_cvm rfl underlying29 underlying5 rfl uB) rfl ?_; refine ws (v_bs (List.toArray [bV (n / 2 ^ 24 % 256), bV (n / 2 ^ 16 % 256), bV (n / 2 ^ 8 % 256), bV (n % 256)]) 5 4 rfl rfl (by intro w; kernel_rfl)) rfl rfl rfl ?_; rintro _ _ ⟨b, rfl, rfl, _⟩; refine xa rfl rfl ?_; refine WO_nil (sq_n (hK2 _ _ ?_))
  refine W.keep [2] rfl ?_; refine W_ret (ret_of (v := _) rfl ?_); exact ⟨b, rfl, rfl⟩
theorem number_m (hm : S.length = m) (hd : Dat p S D) (hS : ∀ x ∈ S, x < 256) (h4 : 4 ≤ m) : CallsL Tryz.prog 16 #[.slice p m cap] D fun v H' => v = wV (num4 S 0) ∧ H' = D := by
  subst hm; obtain ⟨b2, off, c, ty, fz, r, rfl, hat, hcc⟩ := hd (by intro e; subst e; simp at h4); have hga : ∀ j, j < S.length → c[off + j]? = some (bV (S.getD j 0)) := fun j hj => by rw [hcc j hj, getD_in hj]
  have g0 := hga 0 (by omega); have g1 := hga 1 (by omega); have g2 := hga 2 (by omega); have g3 := hga 3 (by omega); have l0 := getD_256 hS 0; have l1 := getD_256 hS 1; have l2 := getD_256 hS 2; have l3 := getD_256 hS 3; have hnum : num4 S 0 = S.getD 0 0 * 16777216 + S.getD 1 0 * 65536 + S.getD 2 0 * 256 + S.getD 3 0 := rfl; generalize S.getD 0 0 = x0 at *; generalize S.getD 1 0 = x1 at *; generalize S.getD 2 0 = x2 at *; generalize S.getD 3 0 = x3 at *; refine CallsL_of func16 rfl ntmps16 rfl ?_
  try dsimp only [initE, Nat.zero_add]
  refine W_seq fun K1 hK1 => ?_; refine W_region ?_; refine xa rfl rfl ?_; refine WO_nil (sq_n (hK1 _ _ ?_)); refine W_seq fun K2 hK2 => ?_; refine W_draw mixed ?_; refine WA_k (fuel := 0) [0,1,2,3,4,5,6,7,8,9,10,11,12,13,14,15,16,17,18,19,20,21,22] rfl (by kernel_rfl) ?_; refine ym rfl rfl rfl ?_; refine yp rfl (v_ixs rfl underlying22 sizeOf5 rfl rfl (by omega)) rfl ?_; refine yv rfl (v_ld rfl rfl isAgg5 (v := bV x0) g0) rfl ?_; refine yp rfl (n_cv rfl underlying5 underlying29 rfl kW (by omega)) rfl ?_; refine yp rfl (n_shl rfl rfl rfl kW (by decide) (by omega)) rfl ?_; refine ym rfl rfl rfl ?_; refine yp rfl (v_ixs rfl underlying22 sizeOf5 rfl rfl (by omega)) rfl ?_; refine yv rfl (v_ld rfl rfl isAgg5 g1) rfl ?_; refine yp rfl (n_cv rfl underlying5 underlying29 rfl kW (by omega)) rfl ?_; refine yp rfl (n_shl rfl rfl rfl kW (by decide) (by omega)) rfl ?_
  refine yp rfl (n_oradd2 (c := x0) (a := x1 * 2 ^ 16) (s := 24) rfl rfl rfl kW (by omega) (by omega) (by omega)) rfl ?_; refine ym rfl rfl rfl ?_; refine yp rfl (v_ixs rfl underlying22 sizeOf5 rfl rfl (by omega)) rfl ?_; refine yv rfl (v_ld rfl rfl isAgg5 g2) rfl ?_; refine yp rfl (n_cv rfl underlying5 underlying29 rfl kW (by omega)) rfl ?_; refine yp rfl (n_shl rfl rfl rfl kW (by decide) (by omega)) rfl ?_; refine yp rfl (n_oradd2 (c := x0 * 256 + x1) (a := x2 * 2 ^ 8) (s := 16) rfl rfl rfl (hi := ⟨by omega⟩) kW (by omega) (by omega) (by omega)) rfl ?_; refine ym rfl rfl rfl ?_; refine yp rfl (v_ixs rfl underlying22 sizeOf5 rfl rfl (by omega)) rfl ?_; refine yv rfl (v_ld rfl rfl isAgg5 g3) rfl ?_; refine yp rfl (n_cv rfl underlying5 underlying29 rfl kW (by omega)) rfl ?_
  refine yp rfl (n_oradd2 (c := (x0 * 256 + x1) * 256 + x2) (a := x3) (s := 8) rfl rfl rfl (hi := ⟨by omega⟩) kW (by omega) (by omega) (by omega)) rfl ?_; refine yp rfl (v_as rfl rfl) rfl ?_; refine WK_nil ?_; refine WA_nil (by kernel_rfl) (sq_n (hK2 _ _ ?_)); refine W.keep [2] rfl ?_; refine W_ret (ret_of (v := _) rfl ?_); refine ⟨?_, rfl⟩; show wV _ = wV _; rw [hnum, show ((x0 * 256 + x1) * 256 + x2) * 2 ^ 8 + x3 = x0 * 16777216 + x1 * 65536 + x2 * 256 + x3 by omega]
theorem asks_spec (hd : Dat p S D) (hS : ∀ x ∈ S, x < 256) (hl : S.length < 2 ^ 60) (hcap : S.length ≤ cap) : CallsL Tryz.prog 8 #[.slice p S.length cap] D fun v H' => v = .tuple #[wV (asks S).1, .bool (asks S).2] ∧ H' = D := by
  have l1 := getD_256 hS 1; refine CallsL_of func8 rfl ntmps8 rfl ?_
  try dsimp only [initE, Nat.zero_add]
  refine W_seq fun K1 hK1 => ?_; refine W_region ?_; refine xa rfl rfl ?_; refine xa rfl rfl ?_; refine WO_nil (sq_n (hK1 _ _ ?_)); refine W_seq fun K2 hK2 => ?_; refine W_seq fun K3 hK3 => ?_; by_cases h6 : S.length < 6
  · refine W_region ?_; refine xm rfl rfl ?_; refine xp (v_len rfl underlying22 rfl) rfl ?_; refine xp (v_lt rfl rfl rfl (dT (by omega))) rfl ?_; refine xm rfl rfl ?_; refine xno rfl ?_; refine xno rfl ?_; refine xno rfl ?_; refine xno rfl ?_; refine xno rfl ?_; refine xp (v_pt rfl rfl rfl) rfl ?_; refine WO_nil (sq_n (hK3 _ _ ?_)); refine W.keep [0,2,3,13] rfl ?_; refine W_cond_t rfl ?_; refine W_seq fun K4 hK4 => ?_; refine W_region ?_; refine xa rfl rfl ?_; refine xa rfl rfl ?_; refine WO_nil (sq_n (hK4 _ _ ?_)); refine W_ret (sq_r (ret_of (v := _) rfl ?_)); unfold asks; rw [if_neg (fun h => by omega)]; exact ⟨rfl, rfl⟩
  · have hd0 := hd; obtain ⟨b2, off, c, ty, fz, r, rfl, hat, hcc⟩ := hd (by intro e; subst e; simp at h6); have hg1 : c[off + 1]? = some (bV (S.getD 1 0)) := by rw [hcc 1 (by omega), getD_in (by omega)]
    by_cases hf : S.getD 1 0 / 32 % 2 = 0
    · refine W_region ?_; refine xm rfl rfl ?_; refine xp (v_len rfl underlying22 rfl) rfl ?_; refine xp (v_lt rfl rfl rfl (dF (by omega))) rfl ?_; refine xm rfl rfl ?_; refine xm rfl rfl ?_; refine xp (v_ixs rfl underlying22 sizeOf5 rfl rfl (by omega)) rfl ?_; refine xv (v_ld rfl rfl isAgg5 hg1) rfl ?_; refine xp (n_and rfl rfl rfl kB (by omega) (by omega)) rfl ?_; refine xp (v_eq rfl rfl rfl (dT (by rw [(and32 _ l1).2 hf]; rfl))) rfl ?_; refine xp (v_pf rfl rfl rfl) rfl ?_; refine WO_nil (sq_n (hK3 _ _ ?_)); refine W.keep [0,2,3,13] rfl ?_; refine W_cond_t rfl ?_; refine W_seq fun K5 hK5 => ?_; refine W_region ?_; refine xa rfl rfl ?_; refine xa rfl rfl ?_; refine WO_nil (sq_n (hK5 _ _ ?_)); refine W_ret (sq_r (ret_of (v := _) rfl ?_)); unfold asks; rw [if_neg (fun h => by omega)]; exact ⟨rfl, rfl⟩
    · refine W_region ?_; refine xm rfl rfl ?_; refine xp (v_len rfl underlying22 rfl) rfl ?_; refine xp (v_lt rfl rfl rfl (dF (by omega))) rfl ?_; refine xm rfl rfl ?_; refine xm rfl rfl ?_; refine xp (v_ixs rfl underlying22 sizeOf5 rfl rfl (by omega)) rfl ?_; refine xv (v_ld rfl rfl isAgg5 hg1) rfl ?_; refine xp (n_and rfl rfl rfl kB (by omega) (by omega)) rfl ?_; refine xp (v_eq rfl rfl rfl (dF (fun e => hf ((and32 _ l1).1 (by exact_mod_cast e))))) rfl ?_; refine xp (v_pf rfl rfl rfl) rfl ?_; refine WO_nil (sq_n (hK3 _ _ ?_)); refine W.keep [0,2,3,13] rfl ?_; refine W_cond_f rfl ?_; refine W_skip (sq_n (hK2 _ _ ?_)); refine W_seq fun K6 hK6 => ?_; refine W_region ?_; refine xm rfl rfl ?_; refine xp (v_slp rfl underlying22 sizeOf5 rfl .none .none (.some rfl) (by omega) (by omega) (by omega) (by decide)) rfl ?_
      refine wc (e_c rfl rfl rfl call16) rfl rfl rfl (number_m (S := (S.take S.length).drop 2) (by rw [List.length_drop, List.take_length]) (hd0.sub (l := 2) (u := S.length) (m := cap) (Nat.le_refl _) hcap) (fun x hx => hS x (List.mem_of_mem_take (List.mem_of_mem_drop hx))) (by omega)) .all ?_; rintro _ _ ⟨rfl, rfl⟩; (try simp only [ap4]); refine xa rfl rfl ?_; refine xa rfl rfl ?_; refine WO_nil (sq_n (hK6 _ _ ?_)); refine W.keep [2,3] rfl ?_; refine W_ret (ret_of (v := _) rfl ?_); unfold asks; rw [if_pos ⟨by omega, by omega⟩, List.take_length, num4_drop]; exact ⟨rfl, rfl⟩
end
end Go.Proofs.YtpbahgddoamhgaaGreatDoor
namespace Go.Proofs.YtpbahgddoamhgaaGreatDoor
open Go.Proofs.Tryz
open Go Sx Pu
set_option maxRecDepth 10000

namespace Pu
variable {B : List Nat}
theorem cpy_mem {far : Nat} : ∀ (k : Nat) (out : List Nat), (∀ c ∈ out, c < 256) → ∀ c ∈ cpy far k out, c < 256
  | 0, _, h => h
  | k + 1, out, h => cpy_mem k _ fun c hc => (List.mem_append.1 hc).elim (h c) fun e => by rw [List.mem_singleton.1 e]; exact getD_256 h _
theorem rblk_mem {l d : Ents} : ∀ (k : Nat) (out : List Nat) (s : RS), (∀ c ∈ out, c < 256) → ∀ c ∈ (rblk B l d k out s).1, c < 256
  | 0, _, _, h => h
  | k + 1, out, s, h => by
    rw [rblk]
    split
    · exact h
    · split
      · exact h
      · split
        · rename_i h3; exact rblk_mem k _ _ fun c hc => (List.mem_append.1 hc).elim (h c) fun e => by rw [List.mem_singleton.1 e]; exact h3
        · split
          · exact h
          · split
            · exact h
            · split
              · exact h
              · exact rblk_mem k _ _ (cpy_mem _ _ h)
theorem rone_mem (hB : ∀ c ∈ B, c < 256) {kind : Nat} {out : List Nat} {s : RS} (h : ∀ c ∈ out, c < 256) : ∀ c ∈ (rone B kind out s).1, c < 256 := by
  have hb : ∀ (L1 L2 : List Nat) (t : RS), ∀ c ∈ (rblock B L1 L2 out t).1, c < 256 := fun L1 L2 t => by
    unfold rblock
    split
    · exact rblk_mem _ _ _ h
    · exact rblk_mem _ _ _ h
  unfold rone
  split
  · unfold rstored
    split
    · exact h
    · exact fun c hc => (List.mem_append.1 hc).elim (h c) fun e => hB c (List.mem_of_mem_take (List.mem_of_mem_drop e))
  · split
    · exact hb _ _ _
    · split
      · split
        · exact h
        · exact hb _ _ _
      · exact h
theorem rinf_mem (hB : ∀ c ∈ B, c < 256) : ∀ (k : Nat) (out : List Nat) (last : Nat) (s : RS), (∀ c ∈ out, c < 256) → ∀ c ∈ (rinf B k out last s).1, c < 256
  | 0, _, _, _, h => h
  | k + 1, out, last, s, h => by
    rw [rinf]
    split
    · exact h
    · exact rinf_mem hB k _ _ _ (rone_mem hB h)
theorem rinf_facts : ∀ (k : Nat) (out : List Nat) (last : Nat) (s : RS), s.at_ ≤ 8 * B.length → out.length ≤ 129 * s.at_ → (rinf B k out last s).2.at_ ≤ 8 * B.length ∧ (rinf B k out last s).1.length ≤ 129 * (rinf B k out last s).2.at_
  | 0, _, _, _, h, h2 => ⟨h, h2⟩
  | k + 1, out, last, s, h, h2 => by
    rw [rinf]
    split
    · exact ⟨h, h2⟩
    · have g1 := rbit_le h; have g2 := rbits_le 2 g1; have g3 := rbit_mono B s; have g4 := rbits_mono B 2 (rbit B s).2; obtain ⟨f1, f2, f3⟩ := rone_facts (B := B) (out := out) (rbits B 2 (rbit B s).2).1 g2 (by omega); exact rinf_facts k _ _ _ f1 f3
theorem rinflate_some {o : List Nat} {u : Nat} (h : rinflate B = some (o, u)) : (rres B).2.fail = false ∧ (rres B).1 = o ∧ u = used (rres B) ∧ u ≤ B.length ∧ o.length ≤ 1032 * B.length := by
  have hf := rinf_facts (B := B) (8 * B.length + 2) [] 0 ⟨0, false⟩ (Nat.zero_le _) (Nat.zero_le _); have he : rinflate B = if (rres B).2.fail = true then none else some ((rres B).1, used (rres B)) := rfl; rw [he] at h
  split at h
  · cases h
  · rename_i hh; injection h with h; injection h with h3 h4; have hu : used (rres B) = ((rres B).2.at_ + 7) / 8 * 8 / 8 := rfl; obtain ⟨hf1, hf2⟩ : (rres B).2.at_ ≤ 8 * B.length ∧ (rres B).1.length ≤ 129 * (rres B).2.at_ := hf; refine ⟨by simpa using hh, h3, h4.symm, ?_, ?_⟩
    · rw [← h4, hu]; omega
    · rw [← h3]; omega
theorem rinflate_none (h : rinflate B = none) : (rres B).2.fail = true := by
  have he : rinflate B = if (rres B).2.fail = true then none else some ((rres B).1, used (rres B)) := rfl; rw [he] at h
  split at h
  · assumption
  · cases h
end Pu
def strV (L : List Nat) : Value := .string (strOfNums (L.map fun (a : Nat) => (a : Int)))
section
variable {n : Nat} {E : El} {H : Hl} {o : Oper} {x y : Operand} {t' : TypeId}
theorem v_cvs {p : Option Addr} {L : List Nat} {cap m : Nat} (ho : o.op = .convert 22 9 x) (hx : ev E x = some (.slice p m cap)) (hm : L.length = m) (hd : DatV bV p L H) : OV Tryz.prog n E H o (strV L) := fun O F a w hag hp => by
  have h : (convert 22 9 (.slice p m cap)).run Tryz.prog w = .ok (strV L) w := by
    subst hm
    match L, hd with
    | [], _ =>
      show (convert 22 9 (.slice p 0 cap)).run Tryz.prog w = _; rw [run_convert_bytes_string w 22 9 5 _ 0 cap underlying22 underlying5 underlying9]
      cases p with
      | none => simp [Conv.bytesToString]; rfl
      | some q => simp [Conv.bytesToString, loadCells, loadCellsFrom]; rfl
    | c0 :: L, hd =>
      obtain ⟨b, off, c, ty, fz, r, rfl, hat, hcc⟩ := hd (by simp); refine run_convert_bytes_arg w 22 5 underlying22 underlying5 b off _ cap ((c0 :: L).map fun (a : Nat) => (a : Int)) (by simp) (fun i hi => ?_) 9 underlying9; rw [cell_of (v := .int .u8 (((c0 :: L)[i] : Nat) : Int)) hp hat (hcc i hi)]; congr 2; rw [List.getD_eq_getElem?_getD, List.getElem?_map, List.getElem?_eq_getElem hi]; rfl
  simp [execOp, ho, ev_sound hag hx, h]
theorem ba_beq (b : ByteArray) : (b == b) = true := by
  cases b with
  | mk d => exact (beq_self_eq_true d : (d == d) = true)
theorem v_eqst {L : List Nat} (ho : o.op = .binOp .eql 9 x y t') (hx : ev E x = some (strV L)) (hy : ev E y = some (strV L)) : OP Tryz.prog n E o (.bool true) := fun a w ha => by
  unfold strV at hx hy; generalize strOfNums _ = b at hx hy; simp [execOp, ho, ev_sound ha hx, ev_sound ha hy, eqGuard, binOp, Op.stringOp]
end
section
variable {D : Hl} {p q : Option Addr} {cap cap2 m k : Nat} {L : List Nat}
theorem same_spec (hm : L.length = m) (hk : L.length = k) (hd : DatV bV p L D) (hd2 : DatV bV q L D) : CallsL Tryz.prog 10 #[.slice p m cap, .slice q k cap2] D fun v H' => v = .bool true ∧ H' = D := by
  refine CallsL_of func10 rfl ntmps10 rfl ?_
  try dsimp only [initE, Nat.zero_add]
  refine W_seq fun K1 hK1 => ?_; refine W_region ?_; refine xa rfl rfl ?_; refine WO_nil (sq_n (hK1 _ _ ?_)); refine W_seq fun K2 hK2 => ?_; refine W_region ?_; refine xm rfl rfl ?_; refine xv (v_cvs rfl rfl hm hd) rfl ?_; refine xm rfl rfl ?_; refine xv (v_cvs rfl rfl hk hd2) rfl ?_; refine xp (v_eqst rfl rfl rfl) rfl ?_; refine xa rfl rfl ?_; refine WO_nil (sq_n (hK2 _ _ ?_)); refine W.keep [4] rfl ?_; refine W_ret (ret_of (v := _) rfl ?_); exact ⟨rfl, rfl⟩
end
end Go.Proofs.YtpbahgddoamhgaaGreatDoor
namespace Go.Proofs.YtpbahgddoamhgaaGreatDoor
open Go.Proofs.Tryz
open Go Sx Pu
set_option maxRecDepth 10000

namespace Pu
def zs (tb : Nat) (A : List Nat) (V : List Int) (K : Nat) : List Nat := [120, tb] ++ dloop A K V 0 0 ([], 0) ++ be4 (adler A)
/-- what Unzlib gives, with no dictionary -/
def unzl (S : List Nat) : Option (List Nat × Nat) :=
  if 2 ≤ S.length ∧ hd2 (S.getD 0 0) (S.getD 1 0) ∧ S.getD 1 0 / 32 % 2 = 0 then
    match rinflate (S.drop 2) with
    | none => none
    | some (o, u) => if 2 + u + 4 ≤ S.length ∧ num4 S (2 + u) = adler o then some (o, 2 + u + 4) else none
  else none
end Pu
section
variable {D : Hl} {p pl : Option Addr} {cap capl m lv tb K : Nat} {A S : List Nat} {V : List Int}
theorem inflate_m (hm : S.length = m) (hcap : m ≤ cap) (hd : Dat p S D) (hB : ∀ x ∈ S, x < 256) (hl : m ≤ 135000000000) :
    CallsL Tryz.prog 11 #[.slice p m cap, .slice none 0 0] D fun v H' => ∃ G, InfR (rinflate S) v G ∧ H' = G ++ D := by
  subst hm; exact inflate_spec hcap hd hB hl
set_option maxHeartbeats 1000000 in
theorem zlib_spec (hlv : lv < 4) (hlo : ∀ b, b < tb → 64 * lv ≤ b → ¬ hd2 120 b) (hhi : hd2 120 tb) (htb : tb < 256) (hlt : 64 * lv ≤ tb)
    (hd : Dat p A D) (hA : ∀ c ∈ A, c < 256) (hl : A.length ≤ 2 ^ 31) (hz : DatZ pl V D) (hV : ZW V) (hvl : V.length < 2 ^ 62) (hKa : dmeas A V 0 0 < K) (hKb : K ≤ 2 ^ 30) :
    CallsL Tryz.prog 5 #[.slice p A.length cap, .slice none 0 0, .bool false, .int .i64 7, iV lv, .slice pl V.length capl] D fun v H' => ∃ po co G, v = .slice po (zs tb A V K).length co ∧ OwnV bV 5 po co (zs tb A V K) G ∧ H' = G ++ D := by
  have hdl := dloop_ok hA K V 0 0 ([], 0) (Nat.zero_le _) ⟨Nat.le_refl _, by decide, by simp⟩; dsimp only at hdl; have hal := adler_lt A; have hzs : zs tb A V K = [120, tb] ++ dloop A K V 0 0 ([], 0) ++ be4 (adler A) := rfl; generalize zs tb A V K = Z at *; refine CallsL_of func5 rfl ntmps5 rfl ?_
  try dsimp only [initE, Nat.zero_add]
  refine W_seq fun K1 hK1 => ?_; refine W_region ?_; refine xa rfl rfl ?_; refine WO_nil (sq_n (hK1 _ _ ?_)); refine W_seq fun K2 hK2 => ?_; refine W_region ?_; refine xm rfl rfl ?_; refine xp (n_rem rfl rfl rfl (by omega)) rfl ?_; refine xp (n_add rfl rfl rfl kI (by omega)) rfl ?_; refine xp (n_rem rfl rfl rfl (by omega)) rfl ?_; refine xp (n_mul rfl rfl rfl kI (by omega)) rfl ?_; refine xp (n_add rfl rfl rfl kI (by omega)) rfl ?_; refine xp (n_cvm rfl underlying3 underlying5 rfl uB) rfl ?_; refine xa rfl rfl ?_; refine WO_nil (sq_n (hK2 _ _ ?_)); refine W.keep [0,1,2,4,5,12,13] rfl ?_; refine W_seq_mid (fun E H => Sub E [(0, .slice p A.length cap), (1, .slice none 0 0), (2, .bool false), (5, .slice pl V.length capl), (13, bV 120), (14, bV (64 * lv))] ∧ H = D) ?_ ?_
  · refine W_region ?_; refine xm rfl rfl ?_; refine xp (n_rem rfl rfl rfl (by omega)) rfl ?_; refine xp (n_add rfl rfl rfl kI (by omega)) rfl ?_; refine xp (n_rem rfl rfl rfl (by omega)) rfl ?_; refine xp (n_mul rfl rfl rfl kI (by omega)) rfl ?_; refine xp (n_cvm rfl underlying3 underlying5 rfl uB) rfl ?_; refine xa rfl rfl ?_; refine WO_nil (sq_n (?_)); exact ⟨⟨rfl, rfl, rfl, rfl, rfl, congrArg (fun n => some (bV n)) (by omega), trivial⟩, rfl⟩
  · rintro E H ⟨hE, hH⟩; rw [hH]; refine W.env hE ?_; refine W_seq fun K4 hK4 => ?_; refine W_seq fun K5 hK5 => ?_; refine W_region ?_; refine xm rfl rfl ?_; refine WO_nil (sq_n (hK5 _ _ ?_)); refine W_cond_f rfl ?_; refine W_skip (sq_n (hK4 _ _ ?_)); refine W_seq fun K6 hK6 => ?_; refine W_block ?_; refine W_loop (fun m E H => ∃ b, 64 * lv ≤ b ∧ b ≤ tb ∧ m = tb - b ∧ Sub E [(0, .slice p A.length cap), (1, .slice none 0 0), (2, .bool false), (5, .slice pl V.length capl), (13, bV 120), (14, bV b)] ∧ H = D) (m := _) (⟨64 * lv, Nat.le_refl _, hlt, rfl, ⟨rfl, rfl, rfl, rfl, rfl, rfl, trivial⟩, rfl⟩) ?_; rintro m E H ⟨b, hb, hb2, rfl, hE, hH⟩; rw [hH]; refine W.env hE ?_; refine W_seq fun K7 hK7 => ?_; refine W_seq fun K8 hK8 => ?_; by_cases hbt : b < tb
    · refine W_region ?_; refine xm rfl rfl ?_; refine xm rfl rfl ?_; refine wc (e_c rfl rfl rfl call13) rfl rfl rfl (isHeader_spec (by decide) (by omega)) .all ?_; rintro _ Hx ⟨rfl, hHx⟩; rw [hHx, decide_eq_false (hlo b hbt hb)]; (try simp only [ap4]); refine xp (v_not rfl rfl rfl) rfl ?_; refine WO_nil (sq_n (hK8 _ _ ?_)); refine W_cond_t rfl ?_; refine W_skip (sq_n (hK7 _ _ ?_)); refine W_block ?_; refine W_region ?_; refine xm rfl rfl ?_; refine xp (n_add rfl rfl rfl kB (by omega)) rfl ?_; refine xa rfl rfl ?_; refine WO_nil (bl_n (sq_n (?_))); exact ⟨tb - (b + 1), by omega, b + 1, by omega, by omega, rfl, ⟨rfl, rfl, rfl, rfl, rfl, rfl, trivial⟩, rfl⟩
    · obtain rfl : b = tb := by omega
      refine W_region ?_; refine xm rfl rfl ?_; refine xm rfl rfl ?_; refine wc (e_c rfl rfl rfl call13) rfl rfl rfl (isHeader_spec (by decide) (by omega)) .all ?_; rintro _ Hx ⟨rfl, hHx⟩; rw [hHx, decide_eq_true hhi]; (try simp only [ap4]); refine xp (v_not rfl rfl rfl) rfl ?_; refine WO_nil (sq_n (hK8 _ _ ?_)); refine W_cond_f rfl ?_; refine W_exit (sq_x (sq_x (bl_x (sq_n (hK6 _ _ ?_))))); refine W.keep [0,1,2,5,13,14] rfl ?_; refine W_seq fun K9 hK9 => ?_; refine W_region ?_; refine xm rfl rfl ?_; refine xm rfl rfl ?_; refine ws (v_bs (List.toArray [bV 120, bV b]) 5 2 rfl rfl (by intro w; kernel_rfl)) rfl rfl rfl ?_; rintro _ _ ⟨bo, rfl, rfl, _⟩; refine xa rfl rfl ?_; refine WO_nil (sq_n (hK9 _ _ ?_)); refine W.keep [0,1,2,5,15] rfl ?_; refine W_seq fun K10 hK10 => ?_; refine W_seq fun K11 hK11 => ?_; refine W_region ?_; refine xm rfl rfl ?_; refine WO_nil (sq_n (hK11 _ _ ?_))
      refine W_cond_f rfl ?_; refine W_region ?_; refine xa rfl rfl ?_; refine WO_nil (sq_n (hK10 _ _ ?_)); refine W_seq fun K12 hK12 => ?_; refine W_region ?_; refine xm rfl rfl ?_; refine xm rfl rfl ?_; refine xm rfl rfl ?_; refine xm rfl rfl ?_; refine wc (e_c rfl rfl rfl call15) rfl rfl rfl (deflate_spec hd hA hl hz hV hvl hKa hKb) (.skip .all) ?_; rintro _ _ ⟨p1, c1, G, rfl, hdt, rfl⟩; (try simp only [ap4]); refine wapp (bytes := 1) rfl underlying22 underlying22 sizeOf5 typeInfo5 rfl zeroValue5 rfl rfl rfl (OwnV.row (f := bV) (b := bo) (L := [120, b])) rfl ((hdt.appl D).cons _) rfl (fun _ => rfl) (by simp only [List.length_cons, List.length_nil]; omega) (by simp only [List.length_cons, List.length_nil]; omega) rfl rfl rfl ?_; intro p2 c2 H2 hO2; refine xa rfl rfl ?_; refine WO_nil (sq_n (hK12 _ _ ?_)); refine W.keep [0,15] rfl ?_; refine W_seq fun K13 hK13 => ?_; refine W_region ?_
      refine xm rfl rfl ?_; refine xm rfl rfl ?_; refine wc (e_c rfl rfl rfl call12) rfl rfl rfl (adler_spec hd hA (by omega)) (.app (.app .all)) ?_; rintro _ Hx ⟨rfl, hHx⟩; rw [hHx]; (try simp only [ap4]); refine wc (e_c rfl rfl rfl call14) rfl rfl rfl (four_spec hal) .nil ?_; rintro _ _ ⟨bf4, rfl, rfl⟩; (try simp only [ap4]); refine wapp (bytes := 1) rfl underlying22 underlying22 sizeOf5 typeInfo5 rfl zeroValue5 rfl rfl rfl hO2 rfl (M := be4 (adler A)) (((datV_row.app D).app G).app H2) rfl (fun _ => rfl) (by simp only [List.length_cons, List.length_nil, be4]; omega) (by simp only [List.length_cons, List.length_nil, be4]; omega) rfl rfl rfl ?_; intro p3 c3 H3 hO3; refine WO_drop (H' := H3 ++ D) (.pre (.app .front)) ?_; refine xa rfl rfl ?_; refine WO_nil (sq_n (hK13 _ _ ?_)); refine W.keep [12] rfl ?_; refine W_ret (ret_of (v := _) rfl ?_)
      subst hzs; exact ⟨p3, c3, H3, rfl, hO3, rfl⟩
end
end Go.Proofs.YtpbahgddoamhgaaGreatDoor
namespace Go.Proofs.YtpbahgddoamhgaaGreatDoor
open Go.Proofs.Tryz
open Go Sx Pu
set_option maxRecDepth 10000

namespace Pu
def z0 : List Nat := [120, 1, 5, 192, 33, 9, 0, 0, 0, 0, 160, 254, 191, 127, 21, 0, 0, 0, 1]
set_option maxRecDepth 100000 in
theorem z0_eq : zs 1 [] [] 1 = z0 := by kernel_rfl
set_option maxRecDepth 100000 in
theorem z0_res : (rres (z0.drop 2)).1 = [] := by kernel_rfl
set_option maxRecDepth 100000 in
theorem z0_res2 : (rres (z0.drop 2)).2 = ⟨104, false⟩ := by kernel_rfl
theorem z0_unz : unz z0 [] 0 := by
  have hu : used (rres (z0.drop 2)) = 13 := by unfold used; rw [z0_res2]; rfl
  exact ⟨2, .two ⟨by decide, by decide, by decide, by decide⟩ (by decide), by rw [z0_res2], z0_res, by rw [hu]; decide, by rw [hu]; decide, by rw [hu]; decide⟩
theorem unz_uniq {S L M : List Nat} {r q : Nat} (h : unz S L r) (h2 : unz S M q) : L = M ∧ r = q := by
  obtain ⟨o, h1, _, h3, _, _, h6⟩ := h; obtain ⟨o2, g1, _, g3, _, _, g6⟩ := h2; obtain rfl := HOff.uniq h1 g1; exact ⟨h3.symm.trans g3, h6.trans g6.symm⟩
end Pu
section
variable {D : Hl} {p : Option Addr} {cap : Nat} {S : List Nat} {eof shb uex hdr dic chk : Addr}
set_option maxHeartbeats 1000000 in
theorem unzlib_spec (hd : Dat p S D) (hS : ∀ x ∈ S, x < 256) (hl : S.length ≤ 135000000000) (hcap : S.length ≤ cap) :
    CallsL Tryz.prog 6 #[.slice p S.length cap, .slice none 0 0, .bool false] D fun v H' => ∃ G, InfR (unzl S) v G ∧ H' = G ++ D := by
  have l0 := getD_256 hS 0; have l1 := getD_256 hS 1; refine CallsL_of func6 rfl ntmps6 rfl ?_
  try dsimp only [initE, Nat.zero_add]
  refine W_seq fun K1 hK1 => ?_; refine W_region ?_; refine xa rfl rfl ?_; refine xa rfl rfl ?_; refine xa rfl rfl ?_; refine WO_nil (sq_n (hK1 _ _ ?_)); refine W_seq fun K2 hK2 => ?_; refine W_seq fun K3 hK3 => ?_; by_cases h2 : S.length < 2
  · refine W_draw mixed ?_; refine WA_k (fuel := 3) [0,1,2,3,4,5,6,7,8,9] rfl (by kernel_rfl) ?_; refine ym rfl rfl rfl ?_; refine yp rfl (v_len rfl underlying22 rfl) rfl ?_; refine yp rfl (v_lt rfl rfl rfl (dT (by omega))) rfl ?_; refine ym rfl rfl rfl ?_; refine yno rfl rfl ?_; refine yno rfl rfl ?_; refine yno rfl rfl ?_; refine yno rfl rfl ?_; refine yno rfl rfl ?_; refine yno rfl rfl ?_; refine WK_nil ?_; refine WA_one (k := 10) rfl (by kernel_rfl) ?_; refine xno rfl ?_; refine WO_nil (sq_n ?_); refine WA_k (fuel := 0) [11,12] rfl (by kernel_rfl) ?_; refine yno rfl rfl ?_; refine yp rfl (v_pt rfl rfl rfl) rfl ?_; refine WK_nil ?_; refine WA_nil (by kernel_rfl) (sq_n (hK3 _ _ ?_)); refine W.keep [0,1,2,6,7,8,24] rfl ?_; refine W_cond_t rfl ?_; refine W_seq fun K4 hK4 => ?_; refine W_region ?_; refine xa rfl rfl ?_; refine xa rfl rfl ?_; refine xa rfl rfl ?_
    refine WO_nil (sq_n (hK4 _ _ ?_)); refine W_ret (sq_r (ret_of (v := _) rfl ?_)); refine ⟨[], ?_, rfl⟩; unfold unzl; rw [if_neg (fun h => by omega)]; exact rfl
  · have hd0 := hd; obtain ⟨b2, off, c, ty, fz, r, rfl, hat, hcc⟩ := hd (by intro e; subst e; simp at h2); have hg0 : c[off]? = some (bV (S.getD 0 0)) := by have := hcc 0 (by omega); rw [Nat.add_zero] at this; rw [this, getD_in (by omega)]
    have hg1 : c[off + 1]? = some (bV (S.getD 1 0)) := by rw [hcc 1 (by omega), getD_in (by omega)]
    by_cases h3 : hd2 (S.getD 0 0) (S.getD 1 0)
    · refine W_draw mixed ?_; refine WA_k (fuel := 3) [0,1,2,3,4,5,6,7,8,9] rfl (by kernel_rfl) ?_; refine ym rfl rfl rfl ?_; refine yp rfl (v_len rfl underlying22 rfl) rfl ?_; refine yp rfl (v_lt rfl rfl rfl (dF (by omega))) rfl ?_; refine ym rfl rfl rfl ?_; refine ym rfl rfl rfl ?_; refine yp rfl (v_ixs rfl underlying22 sizeOf5 rfl rfl (by omega)) rfl ?_; refine yv rfl (v_ld rfl rfl isAgg5 (v := bV (S.getD 0 0)) hg0) rfl ?_; refine ym rfl rfl rfl ?_; refine yp rfl (v_ixs rfl underlying22 sizeOf5 rfl rfl (by omega)) rfl ?_; refine yv rfl (v_ld rfl rfl isAgg5 hg1) rfl ?_; refine WK_nil ?_; refine WA_one (k := 10) rfl (by kernel_rfl) ?_; refine wc (e_c rfl rfl rfl call13) rfl rfl rfl (isHeader_spec l0 l1) .all ?_; rintro _ Hx ⟨rfl, hHx⟩; rw [hHx, decide_eq_true h3]; (try simp only [ap4]); refine WO_nil (sq_n ?_); refine WA_k (fuel := 0) [11,12] rfl (by kernel_rfl) ?_
      refine yp rfl (v_not rfl rfl rfl) rfl ?_; refine yp rfl (v_pf rfl rfl rfl) rfl ?_; refine WK_nil ?_; refine WA_nil (by kernel_rfl) (sq_n (hK3 _ _ ?_)); refine W.keep [0,1,2,6,7,8,24] rfl ?_; refine W_cond_f rfl ?_; refine W_skip (sq_n (hK2 _ _ ?_)); refine W_seq fun K5 hK5 => ?_; refine W_region ?_; refine xa rfl rfl ?_; refine WO_nil (sq_n (hK5 _ _ ?_)); refine W_seq fun K6 hK6 => ?_; refine W_seq fun K7 hK7 => ?_; by_cases hf : S.getD 1 0 / 32 % 2 = 0
      · refine W_region ?_; refine xm rfl rfl ?_; refine xp (v_ixs rfl underlying22 sizeOf5 rfl rfl (by omega)) rfl ?_; refine xv (v_ld rfl rfl isAgg5 hg1) rfl ?_; refine xp (n_and rfl rfl rfl kB (by omega) (by omega)) rfl ?_; refine xp (v_ne rfl rfl rfl (dF (fun e => e (by rw [(and32 _ l1).2 hf]; rfl)))) rfl ?_; refine WO_nil (sq_n (hK7 _ _ ?_)); refine W.keep [0,1,2,6,7,8,9,29] rfl ?_; refine W_cond_f rfl ?_; refine W_region ?_; refine xa rfl rfl ?_; refine WO_nil (sq_n (hK6 _ _ ?_)); refine W_seq fun K8 hK8 => ?_; have hdd : DatV bV (pmv (some ⟨b2, off, none⟩) cap 2 1) (S.drop 2) D := by
          have := hd0.sub (l := 2) (u := S.length) (m := cap) (Nat.le_refl _) hcap; rwa [List.take_length] at this
        have hSd : ∀ x ∈ S.drop 2, x < 256 := fun x hx => hS x (List.mem_of_mem_drop hx); rcases hri : rinflate (S.drop 2) with _ | ⟨o, u⟩
        · refine W_region ?_; refine xm rfl rfl ?_; refine xm rfl rfl ?_; refine xp (v_slp rfl underlying22 sizeOf5 rfl .none .none (.some rfl) (by omega) (by omega) (by omega) (by decide)) rfl ?_; refine xm rfl rfl ?_; refine wc (e_c rfl rfl rfl call11) rfl rfl rfl (inflate_m (S := S.drop 2) (by rw [List.length_drop]) (by omega) hdd hSd (by omega)) .all ?_; rintro v _ ⟨G, hv, rfl⟩; rw [hri] at hv; change v = .tuple #[.slice none 0 0, .int .i64 0, .bool false] at hv; subst hv; (try simp only [ap4]); refine xm rfl rfl ?_; refine xp (v_ex rfl rfl rfl) rfl ?_; refine xp (v_ex rfl rfl rfl) rfl ?_; refine xp (v_ex rfl rfl rfl) rfl ?_; refine xa rfl rfl ?_; refine xa rfl rfl ?_; refine xa rfl rfl ?_; refine WO_nil (sq_n (hK8 _ _ ?_)); refine W.keep [0,9,6,7,8] rfl ?_; refine W_seq fun K9 hK9 => ?_; refine W_region ?_; refine xm rfl rfl ?_; refine xm rfl rfl ?_
          refine xp (n_add rfl rfl rfl kI (by omega)) rfl ?_; refine xa rfl rfl ?_; refine WO_nil (sq_n (hK9 _ _ ?_)); refine W.keep [0,6,7,8,9] rfl ?_; refine W_seq fun K10 hK10 => ?_; refine W_seq fun K11 hK11 => ?_; refine W_region ?_; refine xm rfl rfl ?_; refine xp (v_not rfl rfl rfl) rfl ?_; refine xm rfl rfl ?_; refine xno rfl ?_; refine xno rfl ?_; refine xno rfl ?_; refine xno rfl ?_; refine xno rfl ?_; refine xp (v_pt rfl rfl rfl) rfl ?_; refine xm rfl rfl ?_; refine xno rfl ?_; refine xno rfl ?_; refine xno rfl ?_; refine xno rfl ?_; refine xno rfl ?_; refine xno rfl ?_; refine xno rfl ?_; refine xp (v_pt rfl rfl rfl) rfl ?_; refine WO_nil (sq_n (hK11 _ _ ?_)); refine W.keep [6,7,8,9,76] rfl ?_; refine W_cond_t rfl ?_; refine W_seq fun K12 hK12 => ?_; refine W_region ?_; refine xa rfl rfl ?_; refine xa rfl rfl ?_; refine xa rfl rfl ?_; refine WO_nil (sq_n (hK12 _ _ ?_))
          refine W_ret (sq_r (ret_of (v := _) rfl ?_)); refine ⟨G, ?_, rfl⟩; unfold unzl; rw [if_pos ⟨by omega, h3, hf⟩, hri]; exact rfl
        · obtain ⟨hr1, hr2, hr3, hr4, hr5⟩ := rinflate_some hri; rw [List.length_drop] at hr4 hr5; have hom : ∀ c ∈ o, c < 256 := hr2 ▸ rinf_mem hSd _ _ _ _ (by simp); refine W_region ?_; refine xm rfl rfl ?_; refine xm rfl rfl ?_; refine xp (v_slp rfl underlying22 sizeOf5 rfl .none .none (.some rfl) (by omega) (by omega) (by omega) (by decide)) rfl ?_; refine xm rfl rfl ?_; refine wc (e_c rfl rfl rfl call11) rfl rfl rfl (inflate_m (S := S.drop 2) (by rw [List.length_drop]) (by omega) hdd hSd (by omega)) .all ?_; rintro v _ ⟨G, hv, rfl⟩; rw [hri] at hv; obtain ⟨p1, c1, hv, hdt⟩ := hv; subst hv; (try simp only [ap4]); refine xm rfl rfl ?_; refine xp (v_ex rfl rfl rfl) rfl ?_; refine xp (v_ex rfl rfl rfl) rfl ?_; refine xp (v_ex rfl rfl rfl) rfl ?_; refine xa rfl rfl ?_; refine xa rfl rfl ?_; refine xa rfl rfl ?_; refine WO_nil (sq_n (hK8 _ _ ?_)); refine W.keep [0,9,6,7,8] rfl ?_
          refine W_seq fun K13 hK13 => ?_; refine W_region ?_; refine xm rfl rfl ?_; refine xm rfl rfl ?_; refine xp (n_add rfl rfl rfl kI (by omega)) rfl ?_; refine xa rfl rfl ?_; refine WO_nil (sq_n (hK13 _ _ ?_)); refine W.keep [0,6,7,8,9] rfl ?_; refine W_seq fun K14 hK14 => ?_; refine W_seq fun K15 hK15 => ?_; by_cases hlen : S.length < 2 + u + 4
          · refine W_region ?_; refine xm rfl rfl ?_; refine xp (v_not rfl rfl rfl) rfl ?_; refine xm rfl rfl ?_; refine xm rfl rfl ?_; refine xp (v_len rfl underlying22 rfl) rfl ?_; refine xm rfl rfl ?_; refine xp (n_add rfl rfl rfl kI (by omega)) rfl ?_; refine xp (v_lt rfl rfl rfl (dT (by omega))) rfl ?_; refine xp (v_pf rfl rfl rfl) rfl ?_; refine xm rfl rfl ?_; refine xno rfl ?_; refine xno rfl ?_; refine xno rfl ?_; refine xno rfl ?_; refine xno rfl ?_; refine xno rfl ?_; refine xno rfl ?_; refine xp (v_pt rfl rfl rfl) rfl ?_; refine WO_nil (sq_n (hK15 _ _ ?_)); refine W.keep [6,7,8,9,76] rfl ?_; refine W_cond_t rfl ?_; refine W_seq fun K16 hK16 => ?_; refine W_region ?_; refine xa rfl rfl ?_; refine xa rfl rfl ?_; refine xa rfl rfl ?_; refine WO_nil (sq_n (hK16 _ _ ?_)); refine W_ret (sq_r (ret_of (v := _) rfl ?_)); refine ⟨G, ?_, rfl⟩; unfold unzl
            rw [if_pos ⟨by omega, h3, hf⟩, hri]; dsimp only; rw [if_neg (fun h => by omega)]; exact rfl
          · have hdn : DatV bV (pmv (some ⟨b2, off, none⟩) cap (2 + u) 1) (S.drop (2 + u)) D := by
              have := hd0.sub (l := 2 + u) (u := S.length) (m := cap) (Nat.le_refl _) hcap; rwa [List.take_length] at this
            refine W_region ?_; refine xm rfl rfl ?_; refine xp (v_not rfl rfl rfl) rfl ?_; refine xm rfl rfl ?_; refine xm rfl rfl ?_; refine xp (v_len rfl underlying22 rfl) rfl ?_; refine xm rfl rfl ?_; refine xp (n_add rfl rfl rfl kI (by omega)) rfl ?_; refine xp (v_lt rfl rfl rfl (dF (by omega))) rfl ?_; refine xp (v_pf rfl rfl rfl) rfl ?_; refine xm rfl rfl ?_; refine xm rfl rfl ?_; refine xm rfl rfl ?_; refine xp (v_slp rfl underlying22 sizeOf5 rfl .none .none (.some rfl) (by omega) (by omega) (by omega) (by decide)) rfl ?_; refine wc (e_c rfl rfl rfl call16) rfl rfl rfl (number_m (S := S.drop (2 + u)) (by rw [List.length_drop]) (hdn.app G) (fun x hx => hS x (List.mem_of_mem_drop hx)) (by omega)) .all ?_; rintro _ Hx ⟨rfl, hHx⟩; rw [hHx, num4_drop, Nat.add_zero]; (try simp only [ap4]); refine xm rfl rfl ?_
            refine wc (e_c rfl rfl rfl call12) rfl rfl rfl (adler_spec (hdt.appl D) hom (by omega)) .all ?_; rintro _ Hx ⟨rfl, hHx⟩; rw [hHx]; (try simp only [ap4]); refine xp (n_ne rfl rfl rfl) rfl ?_; refine xp (v_pf rfl rfl rfl) rfl ?_; refine WO_nil (sq_n (hK15 _ _ ?_)); refine W.keep [6,7,8,9,76] rfl ?_; refine W_cond rfl (fun hc3 => ?_) (fun hc3 => ?_)
            · replace hc3 := of_decide_eq_true hc3; refine W_seq fun K17 hK17 => ?_; refine W_region ?_; refine xa rfl rfl ?_; refine xa rfl rfl ?_; refine xa rfl rfl ?_; refine WO_nil (sq_n (hK17 _ _ ?_)); refine W_ret (sq_r (ret_of (v := _) rfl ?_)); first
              | (have hq : ¬ ¬ num4 S (2 + u) = adler o := hc3; refine ⟨G, ?_, rfl⟩; unfold unzl; rw [if_pos ⟨by omega, h3, hf⟩, hri]; dsimp only; rw [if_pos ⟨by omega, Decidable.not_not.1 hq⟩]; exact ⟨p1, c1, rfl, hdt⟩)
              | (have hq : ¬ num4 S (2 + u) = adler o := hc3; refine ⟨G, ?_, rfl⟩; unfold unzl; rw [if_pos ⟨by omega, h3, hf⟩, hri]; dsimp only; rw [if_neg (fun h => hq h.2)]; exact rfl)
            · replace hc3 := of_decide_eq_false hc3; refine W_skip (sq_n (hK14 _ _ ?_)); refine W_seq fun K18 hK18 => ?_; refine W_region ?_; refine xm rfl rfl ?_; refine xm rfl rfl ?_; refine xp (n_add rfl rfl rfl kI (by omega)) rfl ?_; refine xa rfl rfl ?_; refine xa rfl rfl ?_; refine xa rfl rfl ?_; refine WO_nil (sq_n (hK18 _ _ ?_)); refine W.keep [6,7,8] rfl ?_; refine W_ret (ret_of (v := _) rfl ?_); first
              | (have hq : ¬ ¬ num4 S (2 + u) = adler o := hc3; refine ⟨G, ?_, rfl⟩; unfold unzl; rw [if_pos ⟨by omega, h3, hf⟩, hri]; dsimp only; rw [if_pos ⟨by omega, Decidable.not_not.1 hq⟩]; exact ⟨p1, c1, rfl, hdt⟩)
              | (have hq : ¬ num4 S (2 + u) = adler o := hc3; refine ⟨G, ?_, rfl⟩; unfold unzl; rw [if_pos ⟨by omega, h3, hf⟩, hri]; dsimp only; rw [if_neg (fun h => hq h.2)]; exact rfl)
      · refine W_region ?_; refine xm rfl rfl ?_; refine xp (v_ixs rfl underlying22 sizeOf5 rfl rfl (by omega)) rfl ?_; refine xv (v_ld rfl rfl isAgg5 hg1) rfl ?_; refine xp (n_and rfl rfl rfl kB (by omega) (by omega)) rfl ?_; refine xp (v_ne rfl rfl rfl (dT (fun e => hf ((and32 _ l1).1 (by exact_mod_cast e))))) rfl ?_; refine WO_nil (sq_n (hK7 _ _ ?_)); refine W.keep [0,1,2,6,7,8,9,29] rfl ?_; refine W_cond_t rfl ?_; refine W_seq fun K19 hK19 => ?_; by_cases h6 : 6 ≤ S.length
        · have hak : asks S = (num4 S 2, true) := by unfold asks; rw [if_pos ⟨h6, by omega⟩]
          refine W_region ?_; refine xm rfl rfl ?_; refine wc (e_c rfl rfl rfl call8) rfl rfl rfl (asks_spec hd0 hS (by omega) hcap) .all ?_; rintro _ Hx ⟨rfl, hHx⟩; rw [hHx, hak]; (try simp only [ap4]); refine xm rfl rfl ?_; refine xp (v_ex rfl rfl rfl) rfl ?_; refine xp (v_ex rfl rfl rfl) rfl ?_; refine xa rfl rfl ?_; refine xa rfl rfl ?_; refine WO_nil (sq_n (hK19 _ _ ?_)); refine W.keep [0,1,2,6,7,8,9,10,11] rfl ?_; refine W_seq fun K20 hK20 => ?_; refine W_seq fun K21 hK21 => ?_; refine W_region ?_; refine xm rfl rfl ?_; refine xp (v_not rfl rfl rfl) rfl ?_; refine xm rfl rfl ?_; refine xm rfl rfl ?_; refine xp (v_not rfl rfl rfl) rfl ?_; refine xp (v_pf rfl rfl rfl) rfl ?_; refine xm rfl rfl ?_; refine xno rfl ?_; refine xno rfl ?_; refine xno rfl ?_; refine xno rfl ?_; refine xp (v_pt rfl rfl rfl) rfl ?_; refine WO_nil (sq_n (hK21 _ _ ?_)); refine W.keep [0,1,6,7,8,9,46] rfl ?_
          refine W_cond_t rfl ?_; refine W_seq fun K22 hK22 => ?_; refine W_region ?_; refine xa rfl rfl ?_; refine xa rfl rfl ?_; refine xa rfl rfl ?_; refine WO_nil (sq_n (hK22 _ _ ?_)); refine W_ret (sq_r (sq_r (ret_of (v := _) rfl ?_))); refine ⟨[], ?_, rfl⟩; unfold unzl; rw [if_neg (fun h => hf h.2.2)]; exact rfl
        · have hak : asks S = (0, false) := by unfold asks; rw [if_neg (fun h => h6 h.1)]
          refine W_region ?_; refine xm rfl rfl ?_; refine wc (e_c rfl rfl rfl call8) rfl rfl rfl (asks_spec hd0 hS (by omega) hcap) .all ?_; rintro _ Hx ⟨rfl, hHx⟩; rw [hHx, hak]; (try simp only [ap4]); refine xm rfl rfl ?_; refine xp (v_ex rfl rfl rfl) rfl ?_; refine xp (v_ex rfl rfl rfl) rfl ?_; refine xa rfl rfl ?_; refine xa rfl rfl ?_; refine WO_nil (sq_n (hK19 _ _ ?_)); refine W.keep [0,1,2,6,7,8,9,10,11] rfl ?_; refine W_seq fun K23 hK23 => ?_; refine W_seq fun K24 hK24 => ?_; refine W_region ?_; refine xm rfl rfl ?_; refine xp (v_not rfl rfl rfl) rfl ?_; refine xm rfl rfl ?_; refine xno rfl ?_; refine xno rfl ?_; refine xp (v_pt rfl rfl rfl) rfl ?_; refine xm rfl rfl ?_; refine xno rfl ?_; refine xno rfl ?_; refine xno rfl ?_; refine xno rfl ?_; refine xp (v_pt rfl rfl rfl) rfl ?_; refine WO_nil (sq_n (hK24 _ _ ?_)); refine W.keep [0,1,6,7,8,9,46] rfl ?_; refine W_cond_t rfl ?_
          refine W_seq fun K25 hK25 => ?_; refine W_region ?_; refine xa rfl rfl ?_; refine xa rfl rfl ?_; refine xa rfl rfl ?_; refine WO_nil (sq_n (hK25 _ _ ?_)); refine W_ret (sq_r (sq_r (ret_of (v := _) rfl ?_))); refine ⟨[], ?_, rfl⟩; unfold unzl; rw [if_neg (fun h => hf h.2.2)]; exact rfl
    · refine W_draw mixed ?_; refine WA_k (fuel := 3) [0,1,2,3,4,5,6,7,8,9] rfl (by kernel_rfl) ?_; refine ym rfl rfl rfl ?_; refine yp rfl (v_len rfl underlying22 rfl) rfl ?_; refine yp rfl (v_lt rfl rfl rfl (dF (by omega))) rfl ?_; refine ym rfl rfl rfl ?_; refine ym rfl rfl rfl ?_; refine yp rfl (v_ixs rfl underlying22 sizeOf5 rfl rfl (by omega)) rfl ?_; refine yv rfl (v_ld rfl rfl isAgg5 (v := bV (S.getD 0 0)) hg0) rfl ?_; refine ym rfl rfl rfl ?_; refine yp rfl (v_ixs rfl underlying22 sizeOf5 rfl rfl (by omega)) rfl ?_; refine yv rfl (v_ld rfl rfl isAgg5 hg1) rfl ?_; refine WK_nil ?_; refine WA_one (k := 10) rfl (by kernel_rfl) ?_; refine wc (e_c rfl rfl rfl call13) rfl rfl rfl (isHeader_spec l0 l1) .all ?_; rintro _ Hx ⟨rfl, hHx⟩; rw [hHx, decide_eq_false h3]; (try simp only [ap4]); refine WO_nil (sq_n ?_); refine WA_k (fuel := 0) [11,12] rfl (by kernel_rfl) ?_
      refine yp rfl (v_not rfl rfl rfl) rfl ?_; refine yp rfl (v_pf rfl rfl rfl) rfl ?_; refine WK_nil ?_; refine WA_nil (by kernel_rfl) (sq_n (hK3 _ _ ?_)); refine W.keep [0,1,2,6,7,8,24] rfl ?_; refine W_cond_t rfl ?_; refine W_seq fun K26 hK26 => ?_; refine W_region ?_; refine xa rfl rfl ?_; refine xa rfl rfl ?_; refine xa rfl rfl ?_; refine WO_nil (sq_n (hK26 _ _ ?_)); refine W_ret (sq_r (ret_of (v := _) rfl ?_)); refine ⟨[], ?_, rfl⟩; unfold unzl; rw [if_neg (fun h => h3 h.2.1)]; exact rfl
theorem reads_spec (hG : GD D eof shb uex hdr dic chk) (hd : Dat p S D) (hS : ∀ x ∈ S, x < 256) (hl : S.length ≤ 135000000000) (hcap : S.length ≤ cap) (hz : unz S [] 0) (h0 : 0 < S.length) :
    CallsL Tryz.prog 9 #[.slice p S.length cap, .slice none 0 0, .bool false, .slice none 0 0] D fun v H' => ∃ G, v = .bool true ∧ H' = G ++ D := by
  refine CallsL_of func9 rfl ntmps9 rfl ?_
  try dsimp only [initE, Nat.zero_add]
  refine W_seq fun K1 hK1 => ?_; refine W_region ?_; refine xa rfl rfl ?_; refine WO_nil (sq_n (hK1 _ _ ?_)); refine W_seq fun K2 hK2 => ?_; refine W_region ?_; refine xm rfl rfl ?_; refine xm rfl rfl ?_; refine xm rfl rfl ?_; refine wc (e_c rfl rfl rfl call7) rfl rfl rfl (unpack_spec hG hd hS hl hcap) .all ?_; rintro _ _ ⟨p2, L, c2, f, rest, G, rfl, rfl, h1, h2, h3, h4, h5, h6, hor⟩; obtain ⟨rfl, hun⟩ : f = 0 ∧ unz S L rest := hor.elim id fun h => absurd hz (h.2 _ _); obtain ⟨rfl, rfl⟩ := unz_uniq hun hz; (try simp only [ap4]); refine xm rfl rfl ?_; refine xp (v_ex rfl rfl rfl) rfl ?_; refine xp (v_ex rfl rfl rfl) rfl ?_; refine xp (v_ex rfl rfl rfl) rfl ?_; refine xa rfl rfl ?_; refine xa rfl rfl ?_; refine xa rfl rfl ?_; refine WO_nil (sq_n (hK2 _ _ ?_)); refine W.keep [0,3,8,9,10,11] rfl ?_; refine W_seq fun K3 hK3 => ?_; refine W_region ?_; refine xm rfl rfl ?_
  refine xp (v_eq rfl rfl rfl (dT (by rfl))) rfl ?_; refine xm rfl rfl ?_; refine xm rfl rfl ?_; refine xp (v_eq rfl rfl rfl (dT (by rfl))) rfl ?_; refine xp (v_pt rfl rfl rfl) rfl ?_; refine xm rfl rfl ?_; refine xm rfl rfl ?_; refine xm rfl rfl ?_; refine wc (e_c rfl rfl rfl call10) rfl rfl rfl (same_spec (L := []) rfl rfl DatV.nil DatV.nil) .all ?_; rintro _ Hx ⟨rfl, hHx⟩; rw [hHx]; (try simp only [ap4]); refine xp (v_pt rfl rfl rfl) rfl ?_; refine xm rfl rfl ?_; refine xm rfl rfl ?_; refine xp (v_len rfl underlying22 rfl) rfl ?_; refine xp (v_gt rfl rfl rfl (dT (by omega))) rfl ?_; refine xp (v_pt rfl rfl rfl) rfl ?_; refine xa rfl rfl ?_; refine WO_nil (sq_n (hK3 _ _ ?_)); refine W.keep [8] rfl ?_; refine W_ret (ret_of (v := _) rfl ?_); exact ⟨G, rfl, rfl⟩
theorem hd2_low : ∀ b, b < 1 → 64 * 0 ≤ b → ¬ hd2 120 b := by
  intro b hb _; obtain rfl : b = 0 := by omega
  decide
/-- Zlib of nothing is read rightly -/
theorem zlib0_spec : CallsL Tryz.prog 5 #[.slice none 0 0, .slice none 0 0, .bool false, .int .i64 7, .int .i64 0, .slice none 0 0] D fun v H' => ∃ po co G, v = .slice po z0.length co ∧ OwnV bV 5 po co z0 G ∧ H' = G ++ D := by
  have h := zlib_spec (D := D) (p := none) (pl := none) (cap := 0) (capl := 0) (lv := 0) (tb := 1) (K := 1) (A := []) (V := []) (by decide) hd2_low (by decide) (by decide) (by decide)
    DatV.nil (by simp) (by decide) (fun h => absurd rfl h) (fun i => by simp) (by decide) (by decide) (by decide)
  rw [z0_eq] at h; exact h
end
end Go.Proofs.YtpbahgddoamhgaaGreatDoor
namespace Go.Proofs.YtpbahgddoamhgaaGreatDoor.Pu

/-- B' begins as B does -/
structure Agr (B B' : List Nat) (n : Nat) : Prop where
  l1 : n ≤ B.length
  l2 : n ≤ B'.length
  eq : ∀ i, i < n → B'.getD i 0 = B.getD i 0
def Gd (n : Nat) (s : RS) : Prop := s.fail = false ∧ s.at_ ≤ 8 * n
theorem Gd.bad {n : Nat} {s : RS} (h : Gd n s.bad) {p : Prop} : p := by have := h.1; simp at this
section
variable {B B' : List Nat} {n : Nat}
theorem rbit_agr (h : Agr B B' n) {s : RS} (hg : Gd n (rbit B s).2) : rbit B' s = rbit B s ∧ Gd n s := by
  obtain ⟨h1, h2, h3, h4⟩ := rbit_ok hg.1; have h5 := hg.2; have l1 := h.l1; have l2 := h.l2; have hf : ¬ s.fail = true := by rw [h1]; decide
  refine ⟨?_, h1, by omega⟩; unfold rbit; rw [if_neg hf, if_neg hf, if_neg (by omega), if_neg (by omega)]; unfold bitAt; rw [h.eq _ (by omega)]
theorem rbits_agr (h : Agr B B' n) {s : RS} : ∀ k, Gd n (rbits B k s).2 → rbits B' k s = rbits B k s ∧ Gd n s
  | 0, hg => ⟨rfl, hg⟩
  | k + 1, hg => by
    have hg : Gd n (rbit B (rbits B k s).2).2 := hg; obtain ⟨e1, g1⟩ := rbit_agr h hg; obtain ⟨e2, g2⟩ := rbits_agr h k g1; refine ⟨?_, g2⟩; rw [rbits, rbits, e2, e1]
theorem symF_agr (h : Agr B B' n) {l : Ents} : ∀ (k long q : Nat) (s : RS), Gd n (symF B l k long q s).2 → symF B' l k long q s = symF B l k long q s ∧ Gd n s
  | 0, _, _, s, hg => by have := hg.1; simp [symF] at this
  | k + 1, long, q, s, hg => by
    have key : Gd n (rbit B s).2 := by
      simp only [symF] at hg
      split at hg
      · split at hg
        · exact ⟨(symF_ok _ _ _ _ hg.1).1, Nat.le_trans (symF_mono _ _ _ _) hg.2⟩
        · exact hg
      · exact ⟨(symF_ok _ _ _ _ hg.1).1, Nat.le_trans (symF_mono _ _ _ _) hg.2⟩
    obtain ⟨he, hgs⟩ := rbit_agr h key; refine ⟨?_, hgs⟩; simp only [symF] at hg ⊢; rw [he]
    split
    · rename_i heq; rw [heq] at hg; dsimp only at hg
      split
      · rename_i hf; exact absurd hf (by rw [key.1]; decide)
      · rfl
    · rename_i heq; rw [heq] at hg; exact (symF_agr h k _ _ _ hg).1
theorem sym_agr (h : Agr B B' n) {l : Ents} {s : RS} (hg : Gd n (sym B l s).2) : sym B' l s = sym B l s ∧ Gd n s := symF_agr h _ _ _ _ hg
theorem rblk_gd {l d : Ents} {k : Nat} {out : List Nat} {s : RS} (hg : Gd n (rblk B l d k out s).2) : Gd n s := by
  refine ⟨?_, Nat.le_trans (rblk_mono _ _ _) hg.2⟩
  cases hf : s.fail
  · rfl
  · have := hg.1; rw [rblk_bad hf] at this; rw [hf] at this; cases this
theorem rblk_agr (h : Agr B B' n) {l d : Ents} : ∀ (k k' : Nat) (out : List Nat) (s : RS), 8 * B.length < k + s.at_ → 8 * B'.length < k' + s.at_ → Gd n (rblk B l d k out s).2 → rblk B' l d k' out s = rblk B l d k out s
  | 0, _, out, s, h1, h2, hg => by
    have g0 := (rblk_gd hg).2; have l1 := h.l1; omega
  | k + 1, 0, out, s, h1, h2, hg => by
    have g0 := (rblk_gd hg).2; have l2 := h.l2; omega
  | k + 1, k' + 1, out, s, h1, h2, hg => by
    have g0 := rblk_gd hg; have hs : ¬ s.fail = true := by rw [g0.1]; decide
    rw [rblk, if_neg hs] at hg; rw [rblk, if_neg hs, rblk, if_neg hs]; by_cases c1 : (sym B l s).2.fail = true ∨ (sym B l s).1 = 256
    · rw [if_pos c1] at hg; have e1 := (sym_agr h hg).1; rw [e1, if_pos c1, if_pos c1]
    · rw [if_neg c1] at hg; have hok := fun hf => (sym_ok (B := B) (l := l) (s := s) hf).2; by_cases c2 : (sym B l s).1 < 256
      · rw [if_pos c2] at hg; have gs := rblk_gd hg; have e1 := (sym_agr h gs).1; have := hok gs.1; rw [e1, if_neg c1, if_neg c1, if_pos c2, if_pos c2]; exact rblk_agr h k k' _ _ (by omega) (by omega) hg
      · rw [if_neg c2] at hg; by_cases c3 : 285 < (sym B l s).1
        · rw [if_pos c3] at hg; exact hg.bad
        · rw [if_neg c3] at hg; by_cases c4 : 29 < (sym B d (rbits B (lenExtra (sym B l s).1) (sym B l s).2).2).1
          · rw [if_pos c4] at hg; exact hg.bad
          · rw [if_neg c4] at hg
            split at hg
            · exact hg.bad
            · rename_i c5; have g3 := rblk_gd hg; obtain ⟨e4, g4⟩ := rbits_agr h _ g3; obtain ⟨e3, g5⟩ := sym_agr h g4; obtain ⟨e2, g6⟩ := rbits_agr h _ g5; obtain ⟨e1, g7⟩ := sym_agr h g6; have := hok g6.1; have m1 := rbits_mono B (lenExtra (sym B l s).1) (sym B l s).2; have m2 : (rbits B (lenExtra (sym B l s).1) (sym B l s).2).2.at_ ≤ (sym B d (rbits B (lenExtra (sym B l s).1) (sym B l s).2).2).2.at_ := symF_mono _ _ _ _; have m3 := rbits_mono B (distExtra (sym B d (rbits B (lenExtra (sym B l s).1) (sym B l s).2).2).1) (sym B d (rbits B (lenExtra (sym B l s).1) (sym B l s).2).2).2; rw [e1, e2, e3, e4, if_neg c1, if_neg c1, if_neg c2, if_neg c2, if_neg c3, if_neg c3, if_neg c4, if_neg c4, if_neg c5, if_neg c5]; exact rblk_agr h k k' _ _ (by omega) (by omega) hg
theorem rblock_agr (h : Agr B B' n) {L1 L2 out : List Nat} {s : RS} (hg : Gd n (rblock B L1 L2 out s).2) : rblock B' L1 L2 out s = rblock B L1 L2 out s ∧ Gd n s := by
  unfold rblock at hg ⊢; have g0 := rblk_gd hg
  split at g0
  · rename_i c; rw [if_pos c] at hg ⊢; exact ⟨rblk_agr h _ _ _ _ (by omega) (by omega) hg, g0⟩
  · exact g0.bad
theorem rclen_agr (h : Agr B B' n) {s : RS} : ∀ i, Gd n (rclen B s i).2 → rclen B' s i = rclen B s i ∧ Gd n s
  | 0, hg => ⟨rfl, hg⟩
  | i + 1, hg => by
    have hg : Gd n (rbits B 3 (rclen B s i).2).2 := hg; obtain ⟨e1, g1⟩ := rbits_agr h 3 hg; obtain ⟨e2, g2⟩ := rclen_agr h i g1; refine ⟨?_, g2⟩; rw [rclen, rclen, e2, e1]
theorem rall_gd {c : Ents} {N k : Nat} {all : List Nat} {s : RS} (hg : Gd n (rall B c N k all s).2) : Gd n s := by
  refine ⟨?_, Nat.le_trans (rall_mono _ _ _) hg.2⟩
  cases hf : s.fail
  · rfl
  · have := hg.1; rw [rall_end (.inl hf)] at this; rw [hf] at this; cases this
theorem rall_agr (h : Agr B B' n) {c : Ents} {N : Nat} : ∀ (k : Nat) (all : List Nat) (s : RS), Gd n (rall B c N k all s).2 → rall B' c N k all s = rall B c N k all s
  | 0, _, _, _ => rfl
  | k + 1, all, s, hg => by
    rw [rall] at hg; rw [rall, rall]; by_cases c1 : s.fail = true ∨ N ≤ all.length
    · rw [if_pos c1, if_pos c1]
    · rw [if_neg c1] at hg; rw [if_neg c1, if_neg c1]; by_cases c2 : (sym B c s).1 < 16
      · rw [if_pos c2] at hg; have e1 := (sym_agr h (rall_gd hg)).1; rw [e1, if_pos c2, if_pos c2]; exact rall_agr h k _ _ hg
      · rw [if_neg c2] at hg; by_cases c3 : (sym B c s).1 = 16 ∧ all.length = 0
        · rw [if_pos c3] at hg; exact (rall_gd hg).bad
        · rw [if_neg c3] at hg; by_cases c4 : (sym B c s).1 = 16
          · rw [if_pos c4] at hg; obtain ⟨e2, g2⟩ := rbits_agr h _ (rall_gd hg); obtain ⟨e1, g1⟩ := sym_agr h g2; rw [e1, e2, if_neg c2, if_neg c2, if_neg c3, if_neg c3, if_pos c4, if_pos c4]; exact rall_agr h k _ _ hg
          · rw [if_neg c4] at hg; by_cases c5 : (sym B c s).1 = 17
            · rw [if_pos c5] at hg; obtain ⟨e2, g2⟩ := rbits_agr h _ (rall_gd hg); obtain ⟨e1, g1⟩ := sym_agr h g2; rw [e1, e2, if_neg c2, if_neg c2, if_neg c3, if_neg c3, if_neg c4, if_neg c4, if_pos c5, if_pos c5]; exact rall_agr h k _ _ hg
            · rw [if_neg c5] at hg; obtain ⟨e2, g2⟩ := rbits_agr h _ (rall_gd hg); obtain ⟨e1, g1⟩ := sym_agr h g2; rw [e1, e2, if_neg c2, if_neg c2, if_neg c3, if_neg c3, if_neg c4, if_neg c4, if_neg c5, if_neg c5]; exact rall_agr h k _ _ hg
theorem rdyn4_gd {nl nd : Nat} {r : List Nat × RS} (hg : Gd n (rdyn4 nl nd r).s) : Gd n r.2 := by
  unfold rdyn4 at hg
  split at hg
  · exact hg.bad
  · exact hg
theorem rdyn_agr (h : Agr B B' n) {s : RS} (hg : Gd n (rdyn B s).s) : rdyn B' s = rdyn B s ∧ Gd n s := by
  have key : Gd n (rbits B 4 (rbits B 5 (rbits B 5 s).2).2).2 ∧ ∀ nl nd nc s, Gd n (rdyn2 B nl nd nc s).s → rdyn2 B' nl nd nc s = rdyn2 B nl nd nc s ∧ Gd n s := by
    have k2 : ∀ nl nd nc s, Gd n (rdyn2 B nl nd nc s).s → rdyn2 B' nl nd nc s = rdyn2 B nl nd nc s ∧ Gd n s := fun nl nd nc s hg => by
      unfold rdyn2 at hg ⊢
      split at hg
      · exact hg.bad
      · rename_i c1; rw [if_neg c1, if_neg c1]; have hg2 := rdyn4_gd hg; have g3 := rall_gd hg2
        split at g3
        · rename_i c3; rw [if_pos c3] at hg2; obtain ⟨e1, g4⟩ := rclen_agr h nc g3; refine ⟨?_, g4⟩; unfold rdyn3; rw [e1, if_pos c3, rall_agr h _ _ _ hg2]
        · exact g3.bad
    exact ⟨(k2 _ _ _ _ hg).2, k2⟩
  obtain ⟨g1, k2⟩ := key; obtain ⟨e3, g2⟩ := rbits_agr h _ g1; obtain ⟨e2, g3⟩ := rbits_agr h _ g2; obtain ⟨e1, g4⟩ := rbits_agr h _ g3; refine ⟨?_, g4⟩; unfold rdyn at hg ⊢; rw [e1, e2, e3]; exact (k2 _ _ _ _ hg).1
theorem rstored_agr (h : Agr B B' n) {out : List Nat} {s : RS} (hg : Gd n (rstored B out s).2) : rstored B' out s = rstored B out s ∧ Gd n s := by
  unfold rstored at hg ⊢
  split at hg
  · exact hg.bad
  · rename_i c1; have hf : ¬ (rbits B 16 (rbits B 16 (ralign s)).2).2.fail = true := fun e => c1 (.inl e); have g0 := hg.2; dsimp only at g0; have g1 : Gd n (rbits B 16 (rbits B 16 (ralign s)).2).2 := ⟨by simpa using hf, by omega⟩; obtain ⟨e2, g2⟩ := rbits_agr h _ g1; obtain ⟨e1, g3⟩ := rbits_agr h _ g2; have ha : (ralign s).at_ = (s.at_ + 7) / 8 * 8 := rfl; have l2 := h.l2; have l1 := h.l1; have h8 := rbits_ok g1.1; have h9 := rbits_ok g2.1; refine ⟨?_, g3.1, by have := g3.2; omega⟩; rw [e1, e2, if_neg c1, if_neg (fun hc => hc.elim (fun e => c1 (.inl e)) fun hc => hc.elim (fun e => c1 (.inr (.inl e))) fun e => by omega)]; congr 2; apply List.ext_getElem
    · simp only [List.length_drop, List.length_take]; omega
    · intro i h1 h2; simp only [List.length_drop, List.length_take] at h1 h2; simp only [List.getElem_drop, List.getElem_take]; have := h.eq ((rbits B 16 (rbits B 16 (ralign s)).2).2.at_ / 8 + i) (by omega); rw [List.getD_eq_getElem?_getD, List.getElem?_eq_getElem (by omega), List.getD_eq_getElem?_getD, List.getElem?_eq_getElem (by omega)] at this; exact this
theorem rone_agr (h : Agr B B' n) {kind : Nat} {out : List Nat} {s : RS} (hg : Gd n (rone B kind out s).2) : rone B' kind out s = rone B kind out s ∧ Gd n s := by
  unfold rone at hg ⊢
  split at hg
  · rename_i c; rw [if_pos c, if_pos c]; exact rstored_agr h hg
  · rename_i c; rw [if_neg c, if_neg c]
    split at hg
    · rename_i c2; rw [if_pos c2, if_pos c2]; exact rblock_agr h hg
    · rename_i c2; rw [if_neg c2, if_neg c2]
      split at hg
      · rename_i c3; rw [if_pos c3, if_pos c3]
        split at hg
        · rename_i c4; exact absurd c4 (by rw [hg.1]; decide)
        · rename_i c4; obtain ⟨e1, g1⟩ := rblock_agr h hg; obtain ⟨e2, g2⟩ := rdyn_agr h g1; rw [e2, if_neg c4, if_neg c4]; exact ⟨e1, g2⟩
      · exact hg.bad
theorem rinf_gd {k : Nat} {out : List Nat} {last : Nat} {s : RS} (hB : s.at_ ≤ 8 * B.length) (ho : out.length ≤ 129 * s.at_) (hg : Gd n (rinf B k out last s).2) : Gd n s := by
  refine ⟨?_, ?_⟩
  · cases hf : s.fail
    · rfl
    · have := hg.1; rw [rinf_end (.inr hf)] at this; rw [hf] at this; cases this
  · refine Nat.le_trans ?_ hg.2; clear hg
    induction k generalizing out last s with
    | zero => exact Nat.le_refl _
    | succ k ih =>
      rw [rinf]
      split
      · exact Nat.le_refl _
      · have a1 := rbit_le hB; have a2 := rbits_le 2 a1; have a3 := rbit_mono B s; have a4 := rbits_mono B 2 (rbit B s).2; obtain ⟨f1, f2, f3⟩ := rone_facts (B := B) (out := out) (rbits B 2 (rbit B s).2).1 a2 (by omega); exact Nat.le_trans (Nat.le_trans a3 (Nat.le_trans a4 f2)) (ih f1 f3)
theorem rinf_agr (h : Agr B B' n) : ∀ (k k' : Nat) (out : List Nat) (last : Nat) (s : RS), s.at_ ≤ 8 * B.length → out.length ≤ 129 * s.at_ → 8 * B.length + 1 < k + s.at_ → 8 * B'.length + 1 < k' + s.at_ → Gd n (rinf B k out last s).2 → rinf B' k' out last s = rinf B k out last s
  | 0, _, out, last, s, hs, ho, h1, h2, hg => by omega
  | k + 1, 0, out, last, s, hs, ho, h1, h2, hg => by
    have := (rinf_gd hs ho hg).2; have l2 := h.l2; omega
  | k + 1, k' + 1, out, last, s, hs, ho, h1, h2, hg => by
    rw [rinf] at hg; rw [rinf, rinf]; by_cases c1 : last ≠ 0 ∨ s.fail = true
    · rw [if_pos c1, if_pos c1]
    · rw [if_neg c1] at hg; rw [if_neg c1, if_neg c1]; have a1 := rbit_le hs; have a2 := rbits_le 2 a1; have a3 := rbit_mono B s; have a4 := rbits_mono B 2 (rbit B s).2; obtain ⟨f1, f2, f3⟩ := rone_facts (B := B) (out := out) (rbits B 2 (rbit B s).2).1 a2 (by omega); have g1 := rinf_gd f1 f3 hg; obtain ⟨e3, g2⟩ := rone_agr h g1; obtain ⟨e2, g3⟩ := rbits_agr h _ g2; obtain ⟨e1, g4⟩ := rbit_agr h g3; have hb := (rbits_ok g2.1).2; have hb1 := (rbit_ok g3.1).2.1; rw [e1, e2, e3]; exact rinf_agr h k k' _ _ _ f1 f3 (by omega) (by omega) hg
theorem rres_agr (h : Agr B B' n) (hf : (rinf B (8 * B.length + 2) [] 0 ⟨0, false⟩).2.fail = false) (hn : (rinf B (8 * B.length + 2) [] 0 ⟨0, false⟩).2.at_ ≤ 8 * n) :
    rinf B' (8 * B'.length + 2) [] 0 ⟨0, false⟩ = rinf B (8 * B.length + 2) [] 0 ⟨0, false⟩ :=
  rinf_agr h _ _ _ _ _ (Nat.zero_le _) (Nat.zero_le _) (by dsimp only; omega) (by dsimp only; omega) ⟨hf, hn⟩
end
end Go.Proofs.YtpbahgddoamhgaaGreatDoor.Pu
namespace Go.Proofs.YtpbahgddoamhgaaGreatDoor
open Go Sx Pu
set_option maxRecDepth 10000

namespace Pu
theorem rinflate_of {B : List Nat} (h : (rres B).2.fail = false) : rinflate B = some ((rres B).1, used (rres B)) := by
  have he : rinflate B = if (rres B).2.fail = true then none else some ((rres B).1, used (rres B)) := rfl; rw [he, if_neg (by rw [h]; decide)]
theorem hdrOk_hd2 {S : List Nat} : hdrOk S ↔ 2 ≤ S.length ∧ hd2 (S.getD 0 0) (S.getD 1 0) := Iff.rfl
theorem unz_unzl {S L : List Nat} {r : Nat} (ha : ¬ ((asks S).2 = true ∧ (asks S).1 = 1)) (h : unz S L r) : ∃ u, unzl S = some (L, u) ∧ r = S.length - u ∧ u ≤ S.length := by
  obtain ⟨o, ho, hf, hL, hu, hn, hr⟩ := h
  cases ho with
  | two h1 h2 =>
    have h3 := hdrOk_hd2.1 h1; rw [List.length_drop] at hu; refine ⟨2 + used (rres (S.drop 2)) + 4, ?_, hr, by omega⟩; unfold unzl; rw [if_pos ⟨h3.1, h3.2, h2⟩, rinflate_of hf, hL]; dsimp only; rw [num4_drop] at hn; rw [if_pos ⟨by omega, hn⟩]
  | six h1 h2 h3 h4 =>
    refine absurd ?_ ha; unfold asks; rw [if_pos ⟨h3, h2⟩]; exact ⟨rfl, h4⟩
theorem unzl_unz {S L : List Nat} {u : Nat} (h : unzl S = some (L, u)) : unz S L (S.length - u) ∧ u ≤ S.length := by
  unfold unzl at h
  split at h
  · rename_i h1
    split at h
    · cases h
    · rename_i o v hri
      split at h
      · rename_i h2; injection h with h; injection h with e1 e2; subst e1 e2; obtain ⟨r1, r2, r3, r4, r5⟩ := rinflate_some hri; subst r3; refine ⟨⟨2, .two (hdrOk_hd2.2 ⟨h1.1, h1.2.1⟩) h1.2.2, r1, r2, by rw [List.length_drop]; omega, ?_, rfl⟩, h2.1⟩; rw [num4_drop]; exact h2.2
      · cases h
  · cases h
theorem getD_app1 {T U : List Nat} {i : Nat} (h : i < T.length) : (T ++ U).getD i 0 = T.getD i 0 := by
  rw [List.getD_eq_getElem?_getD, List.getElem?_append_left h, ← List.getD_eq_getElem?_getD]
theorem getD_app2 {T U : List Nat} (i : Nat) : (T ++ U).getD (T.length + i) 0 = U.getD i 0 := by
  rw [List.getD_eq_getElem?_getD, List.getElem?_append_right (Nat.le_add_right _ _), Nat.add_sub_cancel_left, ← List.getD_eq_getElem?_getD]
theorem num4_be4 {T : List Nat} {n : Nat} (hn : n < 4294967296) : num4 (T ++ be4 n) T.length = n := by
  have e0 : (T ++ be4 n).getD T.length 0 = (be4 n).getD 0 0 := getD_app2 0; have e1 : (T ++ be4 n).getD (T.length + 1) 0 = (be4 n).getD 1 0 := getD_app2 1; have e2 : (T ++ be4 n).getD (T.length + 2) 0 = (be4 n).getD 2 0 := getD_app2 2; have e3 : (T ++ be4 n).getD (T.length + 3) 0 = (be4 n).getD 3 0 := getD_app2 3; unfold num4; rw [e0, e1, e2, e3]; show n / 16777216 % 256 * 16777216 + n / 65536 % 256 * 65536 + n / 256 % 256 * 256 + n % 256 = n; omega
def rawS (X : List Nat) (u n : Nat) : List Nat := [120, 156] ++ X.take u ++ be4 n
theorem head_ok (T : List Nat) : hdrOk ([120, 156] ++ T) ∧ ([120, 156] ++ T).getD 1 0 / 32 % 2 = 0 := by
  refine ⟨⟨by simp, ?_, ?_, ?_⟩, ?_⟩
  · show 120 % 16 = 8; rfl
  · show 120 / 16 ≤ 7; decide
  · show (120 * 256 + 156) % 31 = 0; rfl
  · show 156 / 32 % 2 = 0; rfl
theorem raw_none {X : List Nat} (h : rinflate X = none) (L : List Nat) (r : Nat) : ¬ unz ([120, 156] ++ X) L r := by
  rintro ⟨o, ho, hf, _⟩; obtain ⟨h1, h2⟩ := head_ok X; obtain rfl := HOff.uniq ho (.two h1 h2); have hd : ([120, 156] ++ X).drop 2 = X := rfl; rw [hd] at hf; rw [rinflate_none h] at hf; cases hf
theorem raw_some {X o : List Nat} {u : Nat} (h : rinflate X = some (o, u)) : unz (rawS X u (adler o)) o 0 := by
  obtain ⟨r1, r2, r3, r4, r5⟩ := rinflate_some h; obtain ⟨h1, h2⟩ := head_ok (X.take u ++ be4 (adler o)); have hS : rawS X u (adler o) = [120, 156] ++ (X.take u ++ be4 (adler o)) := by unfold rawS; rw [List.append_assoc]
  have hd : ([120, 156] ++ (X.take u ++ be4 (adler o))).drop 2 = X.take u ++ be4 (adler o) := rfl; have hl : (X.take u).length = u := by rw [List.length_take]; omega
  have hb4 : (be4 (adler o)).length = 4 := rfl; have hat : (rres X).2.at_ ≤ 8 * u := by
    have hu : used (rres X) = ((rres X).2.at_ + 7) / 8 * 8 / 8 := rfl; rw [r3, hu]; omega
  have hag : Agr X (X.take u ++ be4 (adler o)) u := ⟨r4, by rw [List.length_append]; omega, fun i hi => by
    rw [getD_app1 (by omega), List.getD_eq_getElem?_getD, List.getElem?_take_of_lt hi, ← List.getD_eq_getElem?_getD]⟩
  have he : rres (X.take u ++ be4 (adler o)) = rres X := rres_agr hag r1 hat; rw [hS]; refine ⟨2, .two h1 h2, ?_, ?_, ?_, ?_, ?_⟩
  · rw [hd, he]; exact r1
  · rw [hd, he]; exact r2
  · rw [hd, he, ← r3, List.length_append]; omega
  · rw [hd, he, ← r3]; have := num4_be4 (T := X.take u) (adler_lt o); rwa [hl] at this
  · rw [hd, he, ← r3]; simp only [List.length_append, List.length_cons, List.length_nil, hl, hb4]; omega
end Pu
theorem datV_cells {f : Nat → Value} {b : Nat} {L : List Nat} {rest : List Value} {ty : TypeId} {fz : Nat × Nat} {D : Hl} : DatV f (some ⟨b, 0, none⟩) L ((b, .cells (List.toArray (L.map f ++ rest)) ty fz) :: D) := fun _ =>
  ⟨b, 0, _, ty, fz, _, rfl, AtH.here, fun i hi => by rw [Nat.zero_add, List.getElem?_append_left (by rw [List.length_map]; exact hi), List.getElem?_map, List.getElem?_eq_getElem hi]; rfl⟩
end Go.Proofs.YtpbahgddoamhgaaGreatDoor
