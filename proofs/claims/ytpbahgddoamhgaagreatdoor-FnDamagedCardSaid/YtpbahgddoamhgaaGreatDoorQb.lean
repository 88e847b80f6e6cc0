/- Part 2 of 12 of the proof: the executor, the walks and the plain laws, in build order. -/
import Derived.Test.YtpbahgddoamhgaaGreatDoorQa
import Derived.Test.YtpbahgddoamhgaaGreatDoorProg
import Derived.LaidEql
namespace Go.Proofs.YtpbahgddoamhgaaGreatDoor
open Go.Proofs.Tryz
open Go Sx Pu
set_option maxRecDepth 10000

theorem mixed : Tryz.prog.follows .mixedOrders = true := by kernel_rfl

/-- the reader's block -/
abbrev rdO (v : Value) (a : Nat) (f : Bool) : Obj := .cells #[v, .int .i64 (a : Nat), .bool f] 58 (0, 0)

theorem lengthOf_spec (s : Nat) (h1 : 257 ≤ s) (h2 : s ≤ 285) : CallsL Tryz.prog 41 #[.int .i64 (s : Nat)] [] fun v H' => v = .tuple #[.int .i64 (lenBase s : Nat), .int .i64 (lenExtra s : Nat)] ∧ H' = [] := by
  have hp : ¬ s - 257 = 28 → (4 + (s - 257) % 4) * 2 ^ ((s - 257) / 4 - 1) < 1000 := fun h => by
    have e : 2 ^ ((s - 257) / 4 - 1) ≤ 2 ^ 5 := Nat.pow_le_pow_right (by decide) (by omega); have := Nat.mul_le_mul (show 4 + (s - 257) % 4 ≤ 7 by omega) e; omega
  refine CallsL_of func41 rfl ntmps41 rfl ?_
  try dsimp only [initE, Nat.zero_add]
  refine W_seq fun K1 hK1 => ?_; refine W_region ?_; refine xa rfl rfl ?_; refine xa rfl rfl ?_; refine WO_nil (sq_n (hK1 _ _ ?_)); refine W_seq fun K2 hK2 => ?_; refine W_region ?_; refine xm rfl rfl ?_; refine xp (n_sub rfl rfl rfl kI (by omega) (by omega)) rfl ?_; refine xa rfl rfl ?_; refine WO_nil (sq_n (hK2 _ _ ?_)); refine W.keep [2,3,4] rfl ?_; refine W_seq fun K3 hK3 => ?_; refine W_block ?_; refine W_seq fun K4 hK4 => ?_; refine W_region ?_; refine xm rfl rfl ?_; refine xp (n_lt rfl rfl rfl) rfl ?_; refine xa rfl rfl ?_; refine WO_nil (sq_n (hK4 _ _ ?_)); refine W_cond rfl (fun hc0 => ?_) (fun hc0 => ?_)
  · replace hc0 := of_decide_eq_true hc0; refine W_seq fun K5 hK5 => ?_; refine W_region ?_; refine xm rfl rfl ?_; refine xp (n_add rfl rfl rfl kI (by omega)) rfl ?_; refine xa rfl rfl ?_; refine xa rfl rfl ?_; refine WO_nil (sq_n (hK5 _ _ ?_)); refine W.keep [4,2,3] rfl ?_; refine W_ret (bl_r (sq_r (ret_of (v := _) rfl ?_))); exact ⟨by simp [lenBase, lenExtra, *], rfl⟩
  · replace hc0 := of_decide_eq_false hc0; refine W_seq fun K6 hK6 => ?_; refine W_region ?_; refine xm rfl rfl ?_; refine xp (n_eq rfl rfl rfl) rfl ?_; refine xa rfl rfl ?_; refine WO_nil (sq_n (hK6 _ _ ?_)); refine W.keep [2,3,4,12] rfl ?_; refine W_cond rfl (fun hc1 => ?_) (fun hc1 => ?_)
    · replace hc1 := of_decide_eq_true hc1; refine W_seq fun K7 hK7 => ?_; refine W_region ?_; refine xa rfl rfl ?_; refine xa rfl rfl ?_; refine WO_nil (sq_n (hK7 _ _ ?_)); refine W_ret (bl_r (sq_r (ret_of (v := _) rfl ?_))); exact ⟨by simp [lenBase, lenExtra, *], rfl⟩
    · replace hc1 := of_decide_eq_false hc1; refine W_skip (bl_n (sq_n (hK3 _ _ ?_))); refine W_seq fun K8 hK8 => ?_; refine W_region ?_; refine xm rfl rfl ?_; refine xp (n_quo rfl rfl rfl kI (by omega) (by omega)) rfl ?_; refine xp (n_sub rfl rfl rfl kI (by omega) (by omega)) rfl ?_; refine xa rfl rfl ?_; refine WO_nil (sq_n (hK8 _ _ ?_)); refine W.keep [2,4,3] rfl ?_; refine W_seq fun K9 hK9 => ?_; refine W_region ?_; refine xm rfl rfl ?_; refine xp (n_rem rfl rfl rfl (by omega)) rfl ?_; refine xp (n_add rfl rfl rfl kI (by omega)) rfl ?_; refine xm rfl rfl ?_; refine xp (n_shl rfl rfl rfl kI (by show _ ≤ 64; omega) (by have := hp ‹_›; omega)) rfl ?_; refine xp (n_add rfl rfl rfl kI (by have := hp ‹_›; omega)) rfl ?_; refine xm rfl rfl ?_; refine xa rfl rfl ?_; refine xa rfl rfl ?_; refine WO_nil (sq_n (hK9 _ _ ?_)); refine W.keep [2,3] rfl ?_; refine W_ret (ret_of (v := _) rfl ?_)
      exact ⟨by simp [lenBase, lenExtra, *], rfl⟩

theorem distanceOf_spec (s : Nat) (h2 : s ≤ 29) : CallsL Tryz.prog 42 #[.int .i64 (s : Nat)] [] fun v H' => v = .tuple #[.int .i64 (distBase s : Nat), .int .i64 (distExtra s : Nat)] ∧ H' = [] := by
  have hp : (2 + s % 2) * 2 ^ (s / 2 - 1) < 100000 := by
    have e : 2 ^ (s / 2 - 1) ≤ 2 ^ 13 := Nat.pow_le_pow_right (by decide) (by omega); have := Nat.mul_le_mul (show 2 + s % 2 ≤ 3 by omega) e; omega
  refine CallsL_of func42 rfl ntmps42 rfl ?_
  try dsimp only [initE, Nat.zero_add]
  refine W_seq fun K1 hK1 => ?_; refine W_region ?_; refine xa rfl rfl ?_; refine xa rfl rfl ?_; refine WO_nil (sq_n (hK1 _ _ ?_)); refine W_seq fun K2 hK2 => ?_; refine W_seq fun K3 hK3 => ?_; refine W_region ?_; refine xm rfl rfl ?_; refine xp (n_lt rfl rfl rfl) rfl ?_; refine WO_nil (sq_n (hK3 _ _ ?_)); refine W_cond rfl (fun hc0 => ?_) (fun hc0 => ?_)
  · replace hc0 := of_decide_eq_true hc0; refine W_seq fun K4 hK4 => ?_; refine W_region ?_; refine xm rfl rfl ?_; refine xp (n_add rfl rfl rfl kI (by omega)) rfl ?_; refine xa rfl rfl ?_; refine xa rfl rfl ?_; refine WO_nil (sq_n (hK4 _ _ ?_)); refine W.keep [0,2,3] rfl ?_; refine W_ret (sq_r (ret_of (v := _) rfl ?_)); exact ⟨by simp [distBase, distExtra, *], rfl⟩
  · replace hc0 := of_decide_eq_false hc0; refine W_skip (sq_n (hK2 _ _ ?_)); refine W_seq fun K5 hK5 => ?_; refine W_region ?_; refine xm rfl rfl ?_; refine xp (n_quo rfl rfl rfl kI (by omega) (by omega)) rfl ?_; refine xp (n_sub rfl rfl rfl kI (by omega) (by omega)) rfl ?_; refine xa rfl rfl ?_; refine WO_nil (sq_n (hK5 _ _ ?_)); refine W.keep [0,2,3] rfl ?_; refine W_seq fun K6 hK6 => ?_; refine W_region ?_; refine xm rfl rfl ?_; refine xp (n_rem rfl rfl rfl (by omega)) rfl ?_; refine xp (n_add rfl rfl rfl kI (by omega)) rfl ?_; refine xm rfl rfl ?_; refine xp (n_shl rfl rfl rfl kI (by show _ ≤ 64; omega) (by omega)) rfl ?_; refine xp (n_add rfl rfl rfl kI (by omega)) rfl ?_; refine xm rfl rfl ?_; refine xa rfl rfl ?_; refine xa rfl rfl ?_; refine WO_nil (sq_n (hK6 _ _ ?_)); refine W.keep [2,3] rfl ?_; refine W_ret (ret_of (v := _) rfl ?_); exact ⟨by simp [distBase, distExtra, *], rfl⟩

section
variable {p : Option Addr} {cap rb : Nat} {B : List Nat} {D : Hl}
theorem bit_spec {at_ : Nat} {fail : Bool} (hd : Dat p B D) (hB : ∀ x ∈ B, x < 256) (hl : B.length < 2 ^ 59) (hs : at_ ≤ 8 * B.length) :
    CallsL Tryz.prog 23 #[.pointer (some ⟨rb, 0, none⟩)] ((rb, rdO (.slice p B.length cap) at_ fail) :: D) fun u H' =>
      u = .int .i64 ((rbit B ⟨at_, fail⟩).1 : Nat) ∧ H' = (rb, rdO (.slice p B.length cap) (rbit B ⟨at_, fail⟩).2.at_ (rbit B ⟨at_, fail⟩).2.fail) :: D := by
  cases fail
  · refine CallsL_of func23 rfl ntmps23 rfl ?_
    try dsimp only [initE, Nat.zero_add]
    refine W_seq fun K1 hK1 => ?_; refine W_region ?_; refine xa rfl rfl ?_; refine WO_nil (sq_n (hK1 _ _ ?_)); refine W_seq fun K2 hK2 => ?_; refine W_seq fun K3 hK3 => ?_; refine W_draw mixed ?_; refine WA_k (fuel := 0) [0,1,2,3,4,5,6,7,8,9,10,11,12,13,14,15,16] rfl (by kernel_rfl) ?_; refine ym rfl rfl rfl ?_; refine yp rfl (v_nil rfl rfl) rfl ?_; refine yp rfl (v_fa (q := 2) rfl underlying58 rfl rfl sizeOf4 rfl) rfl ?_; refine yv rfl (ld rfl rfl isAgg4) rfl ?_; refine ym rfl rfl rfl ?_; refine ym rfl rfl rfl ?_; refine yp rfl (v_nil rfl rfl) rfl ?_; refine yp rfl (v_fa (q := 1) rfl underlying58 rfl rfl sizeOf3 rfl) rfl ?_; refine yv rfl (ld rfl rfl isAgg3) rfl ?_; refine ym rfl rfl rfl ?_; refine yp rfl (v_nil rfl rfl) rfl ?_; refine yp rfl (v_fa (q := 0) rfl underlying58 rfl rfl sizeOf22 rfl) rfl ?_; refine yv rfl (ld rfl rfl isAgg22) rfl ?_
    refine yp rfl (v_len rfl underlying22 rfl) rfl ?_; refine yp rfl (n_mul rfl rfl rfl kI (by omega)) rfl ?_; refine yp rfl (n_ge rfl rfl rfl) rfl ?_; refine yp rfl (v_pf rfl rfl rfl) rfl ?_; refine WK_nil ?_; refine WA_nil (by kernel_rfl) (sq_n (hK3 _ _ ?_)); refine W.keep [0,2,20] rfl ?_; refine W_cond rfl (fun hc0 => ?_) (fun hc0 => ?_)
    · replace hc0 := of_decide_eq_true hc0; refine W_seq fun K4 hK4 => ?_; refine W_region ?_; refine xm rfl rfl ?_; refine xn rfl rfl ?_; refine xp (v_fa (q := 2) rfl underlying58 rfl rfl sizeOf4 rfl) rfl ?_; refine wst rfl rfl rfl sizeOf4 rfl rfl rfl ?_; refine WO_nil (sq_n (hK4 _ _ ?_)); refine W.keep [0,2] rfl ?_; refine W_seq fun K5 hK5 => ?_; refine W_region ?_; refine xa rfl rfl ?_; refine WO_nil (sq_n (hK5 _ _ ?_)); refine W_ret (sq_r (ret_of (v := _) rfl ?_)); exact ⟨by simp [rbit, *], by simp [rbit, *]⟩
    · replace hc0 := of_decide_eq_false hc0; refine W_skip (sq_n (hK2 _ _ ?_)); refine W_seq fun K6 hK6 => ?_; have hne : B ≠ [] := by intro e; subst e; exact hc0 (by simp)
      obtain ⟨b, off, c, ty, fz, r, rfl, hat, hc⟩ := hd hne; have hlt : at_ / 8 < B.length := by omega
      have hby := hB _ (List.getElem_mem hlt); have hdv : B[at_ / 8] / 2 ^ (at_ % 8) ≤ B[at_ / 8] := Nat.div_le_self _ _; refine W_draw mixed ?_; refine WA_k (fuel := 0) [0,1,2,3,4,5,6,7,8,9,10,11,12,13,14,15,16,17,18,19] rfl (by kernel_rfl) ?_; refine ym rfl rfl rfl ?_; refine yp rfl (v_nil rfl rfl) rfl ?_; refine yp rfl (v_fa (q := 0) rfl underlying58 rfl rfl sizeOf22 rfl) rfl ?_; refine yv rfl (ld rfl rfl isAgg22) rfl ?_; refine ym rfl rfl rfl ?_; refine yp rfl (v_nil rfl rfl) rfl ?_; refine yp rfl (v_fa (q := 1) rfl underlying58 rfl rfl sizeOf3 rfl) rfl ?_; refine yv rfl (ld rfl rfl isAgg3) rfl ?_; refine yp rfl (n_quo rfl rfl rfl kI (by omega) (by omega)) rfl ?_; refine yp rfl (v_ixs rfl underlying22 sizeOf5 rfl rfl (by omega)) rfl ?_; refine yv rfl (v_ld rfl rfl isAgg5 (hc _ hlt)) rfl ?_; refine ym rfl rfl rfl ?_; refine yp rfl (v_nil rfl rfl) rfl ?_
      refine yp rfl (v_fa (q := 1) rfl underlying58 rfl rfl sizeOf3 rfl) rfl ?_; refine yv rfl (ld rfl rfl isAgg3) rfl ?_; refine yp rfl (n_rem rfl rfl rfl (by omega)) rfl ?_; refine yp rfl (n_shr rfl rfl rfl (by show _ ≤ 8; omega)) rfl ?_; refine yp rfl (n_cv rfl underlying5 underlying3 rfl kI (by omega)) rfl ?_; refine yp rfl (n_and rfl rfl rfl kI (by omega) (by omega)) rfl ?_; refine yp rfl (v_as rfl rfl) rfl ?_; refine WK_nil ?_; refine WA_nil (by kernel_rfl) (sq_n (hK6 _ _ ?_)); refine W.keep [0,2,3] rfl ?_; refine W_seq fun K7 hK7 => ?_; refine W_region ?_; refine xm rfl rfl ?_; refine xn rfl rfl ?_; refine xp (v_fa (q := 1) rfl underlying58 rfl rfl sizeOf3 rfl) rfl ?_; refine xv (ld rfl rfl isAgg3) rfl ?_; refine xp (n_add rfl rfl rfl kI (by omega)) rfl ?_; refine xn rfl rfl ?_; refine xp (v_fa (q := 1) rfl underlying58 rfl rfl sizeOf3 rfl) rfl ?_
      refine wst rfl rfl rfl sizeOf3 rfl rfl rfl ?_; refine WO_nil (sq_n (hK7 _ _ ?_)); refine W.keep [2,3] rfl ?_; refine W_seq fun K8 hK8 => ?_; refine W_region ?_; refine xm rfl rfl ?_; refine xa rfl rfl ?_; refine WO_nil (sq_n (hK8 _ _ ?_)); refine W_ret (ret_of (v := _) rfl ?_); have hg : B[at_ / 8]? = some B[at_ / 8] := by simp [hlt]
      exact ⟨by simp [rbit, hc0, bitAt, hg, Nat.and_one_is_mod], by simp [rbit, hc0]⟩
  · refine CallsL_of func23 rfl ntmps23 rfl ?_
    try dsimp only [initE, Nat.zero_add]
    refine W_seq fun K1 hK1 => ?_; refine W_region ?_; refine xa rfl rfl ?_; refine WO_nil (sq_n (hK1 _ _ ?_)); refine W_seq fun K2 hK2 => ?_; refine W_seq fun K3 hK3 => ?_; refine W_draw mixed ?_; refine WA_k (fuel := 0) [0,1,2,3,4,5,6,7,8,9,10,11,12,13,14,15,16] rfl (by kernel_rfl) ?_; refine ym rfl rfl rfl ?_; refine yp rfl (v_nil rfl rfl) rfl ?_; refine yp rfl (v_fa (q := 2) rfl underlying58 rfl rfl sizeOf4 rfl) rfl ?_; refine yv rfl (ld rfl rfl isAgg4) rfl ?_; refine ym rfl rfl rfl ?_; refine yno rfl rfl ?_; refine yno rfl rfl ?_; refine yno rfl rfl ?_; refine yno rfl rfl ?_; refine yno rfl rfl ?_; refine yno rfl rfl ?_; refine yno rfl rfl ?_; refine yno rfl rfl ?_; refine yno rfl rfl ?_; refine yno rfl rfl ?_; refine yno rfl rfl ?_; refine yp rfl (v_pt rfl rfl rfl) rfl ?_; refine WK_nil ?_; refine WA_nil (by kernel_rfl) (sq_n (hK3 _ _ ?_)); refine W.keep [0,2,20] rfl ?_
    refine W_cond_t rfl ?_; refine W_seq fun K4 hK4 => ?_; refine W_region ?_; refine xm rfl rfl ?_; refine xn rfl rfl ?_; refine xp (v_fa (q := 2) rfl underlying58 rfl rfl sizeOf4 rfl) rfl ?_; refine wst rfl rfl rfl sizeOf4 rfl rfl rfl ?_; refine WO_nil (sq_n (hK4 _ _ ?_)); refine W.keep [0,2] rfl ?_; refine W_seq fun K5 hK5 => ?_; refine W_region ?_; refine xa rfl rfl ?_; refine WO_nil (sq_n (hK5 _ _ ?_)); refine W_ret (sq_r (ret_of (v := _) rfl ?_)); exact ⟨by simp [rbit], by simp [rbit]⟩

theorem bit_s (s : RS) (hd : Dat p B D) (hB : ∀ x ∈ B, x < 256) (hl : B.length < 2 ^ 59) (hs : s.at_ ≤ 8 * B.length) :
    CallsL Tryz.prog 23 #[.pointer (some ⟨rb, 0, none⟩)] ((rb, rdO (.slice p B.length cap) s.at_ s.fail) :: D) fun u H' =>
      u = .int .i64 ((rbit B s).1 : Nat) ∧ H' = (rb, rdO (.slice p B.length cap) (rbit B s).2.at_ (rbit B s).2.fail) :: D := bit_spec hd hB hl hs
theorem bits_spec (many : Nat) (s : RS) (hd : Dat p B D) (hB : ∀ x ∈ B, x < 256) (hl : B.length < 2 ^ 59) (hs : s.at_ ≤ 8 * B.length) (hm : many ≤ 32) :
    CallsL Tryz.prog 24 #[.pointer (some ⟨rb, 0, none⟩), .int .i64 (many : Nat)] ((rb, rdO (.slice p B.length cap) s.at_ s.fail) :: D) fun u H' =>
      u = .int .i64 ((rbits B many s).1 : Nat) ∧ H' = (rb, rdO (.slice p B.length cap) (rbits B many s).2.at_ (rbits B many s).2.fail) :: D := by
  refine CallsL_of func24 rfl ntmps24 rfl ?_
  try dsimp only [initE, Nat.zero_add]
  refine W_seq fun K1 hK1 => ?_; refine W_region ?_; refine xa rfl rfl ?_; refine WO_nil (sq_n (hK1 _ _ ?_)); refine W_seq fun K2 hK2 => ?_; refine W_region ?_; refine xa rfl rfl ?_; refine WO_nil (sq_n (hK2 _ _ ?_)); refine W_seq fun K3 hK3 => ?_; refine W_seq fun K4 hK4 => ?_; refine W_region ?_; refine xm rfl rfl ?_; refine xm rfl rfl ?_; refine WO_nil (sq_n (hK4 _ _ ?_)); refine W_block ?_; refine W_loop (fun m E H => ∃ i, i ≤ many ∧ m = many - i ∧ Sub E [(0, .pointer (some ⟨rb, 0, none⟩)), (5, .int .i64 ((rbits B i s).1 : Nat)), (7, .int .i64 (many : Nat)), (8, .int .i64 (i : Nat))] ∧ H = (rb, rdO (.slice p B.length cap) (rbits B i s).2.at_ (rbits B i s).2.fail) :: D) (m := _) (⟨0, by omega, rfl, ⟨rfl, rfl, rfl, rfl, trivial⟩, rfl⟩) ?_; rintro m E H ⟨i, hi, rfl, hE, rfl⟩; refine W.env hE ?_; have hat := rbits_le (s := s) i hs; have hlt := rbits_lt B i s
  have h32 : 2 ^ i ≤ 2 ^ 32 := Nat.pow_le_pow_right (by decide) (by omega); refine W_seq fun K5 hK5 => ?_; refine W_region ?_; refine xp (n_lt rfl rfl rfl) rfl ?_; refine WO_nil (sq_n (hK5 _ _ ?_)); refine W_seq fun K6 hK6 => ?_; refine W_cond rfl (fun hc0 => ?_) (fun hc0 => ?_)
  · replace hc0 := of_decide_eq_true hc0; refine W_skip (sq_n (hK6 _ _ ?_)); refine W_seq fun K7 hK7 => ?_; refine W_block ?_; refine W_seq fun K8 hK8 => ?_; refine W_region ?_; refine xm rfl rfl ?_; refine xa rfl rfl ?_; refine WO_nil (sq_n (hK8 _ _ ?_)); refine W_region ?_; refine xm rfl rfl ?_; refine xm rfl rfl ?_; refine wc (e_c rfl rfl rfl call23) rfl rfl rfl (bit_s (rbits B i s).2 hd hB hl hat) (by repeat (first | exact HSub.nil | exact HSub.all | (apply HSub.cons; (repeat (first | exact AtR.here | apply AtR.there | apply AtR.app))) | apply HSub.skip | exact HSub.behind | apply HSub.app)) ?_; rintro _ _ ⟨rfl, rfl⟩; have hbt := rbit_lt B (rbits B i s).2; have hmul : (rbit B (rbits B i s).2).1 * 2 ^ i ≤ 1 * 2 ^ i := Nat.mul_le_mul_right _ (by omega); (try simp only [ap4]); refine xm rfl rfl ?_; refine xp (n_shl rfl rfl rfl kI (by show _ ≤ 64; omega) (by omega)) rfl ?_
    refine xp (n_oradd rfl rfl rfl kI (by omega) (by omega) hlt) rfl ?_; refine xa rfl rfl ?_; refine WO_nil (bl_n (sq_n (hK7 _ _ ?_))); refine W_region ?_; refine xp (n_add rfl rfl rfl kI (by omega)) rfl ?_; refine xm rfl rfl ?_; refine WO_nil (sq_n (?_)); exact ⟨_, by omega, i + 1, by omega, rfl, ⟨rfl, rfl, rfl, rfl, trivial⟩, rfl⟩
  · replace hc0 := of_decide_eq_false hc0; refine W_exit (sq_x (sq_x (bl_x (sq_n (hK3 _ _ ?_))))); refine W.keep [5] rfl ?_; refine W_seq fun K9 hK9 => ?_; refine W_region ?_; refine xm rfl rfl ?_; refine xa rfl rfl ?_; refine WO_nil (sq_n (hK9 _ _ ?_)); refine W_ret (ret_of (v := _) rfl ?_); obtain rfl : i = many := by omega
    exact ⟨rfl, rfl⟩
theorem align_spec {at_ : Nat} {fail : Bool} (hl : at_ < 2 ^ 62) {v : Value} :
    CallsL Tryz.prog 29 #[.pointer (some ⟨rb, 0, none⟩)] ((rb, rdO v at_ fail) :: D) fun _ H' => H' = (rb, rdO v (ralign ⟨at_, fail⟩).at_ fail) :: D := by
  refine CallsL_of func29 rfl ntmps29 rfl ?_
  try dsimp only [initE, Nat.zero_add]
  refine W_region ?_; refine xm rfl rfl ?_; refine xm rfl rfl ?_; refine xn rfl rfl ?_; refine xp (v_fa (q := 1) rfl underlying58 rfl rfl sizeOf3 rfl) rfl ?_; refine xv (ld rfl rfl isAgg3) rfl ?_; refine xp (n_add rfl rfl rfl kI (by omega)) rfl ?_; refine xp (n_quo rfl rfl rfl kI (by omega) (by omega)) rfl ?_; refine xp (n_mul rfl rfl rfl kI (by omega)) rfl ?_; refine xn rfl rfl ?_; refine xp (v_fa (q := 1) rfl underlying58 rfl rfl sizeOf3 rfl) rfl ?_; refine wst rfl rfl rfl sizeOf3 rfl rfl rfl ?_; refine WO_nil (end_of (v := _) rfl ?_); exact rfl
end
end Go.Proofs.YtpbahgddoamhgaaGreatDoor
namespace Go.Proofs.YtpbahgddoamhgaaGreatDoor
open Go.Proofs.Tryz
open Go Sx Pu
set_option maxRecDepth 10000

section
variable {p : Option Addr} {cap rb : Nat} {L B : List Nat} {D : Hl}

theorem cn_bd (hL : L.length ≤ 320) {j : Nat} (hj : j ≤ 15) : cn L j + L.length ≤ 10485760 := by
  have h1 := cn_le L j; have h2 : 2 ^ j ≤ 2 ^ 15 := Nat.pow_le_pow_right (by decide) hj; have h3 : L.length * 2 ^ j ≤ 320 * 2 ^ 15 := Nat.mul_le_mul hL h2; have e : 320 * 2 ^ 15 = 10485760 := rfl; omega

theorem codes_spec (hd : DatI p L D) (hL : L.length ≤ 320) :
    CallsL Tryz.prog 44 #[.slice p L.length cap] D fun v H' => ∃ b, v = .slice (some ⟨b, 0, none⟩) L.length L.length ∧ H' = (b, .cells (List.toArray ((codesL L).map iV)) 3 (0, 0)) :: D := by
  refine CallsL_of func44 rfl ntmps44 rfl ?_
  try dsimp only [initE, Nat.zero_add]
  refine W_seq fun K1 hK1 => ?_; refine W_region ?_; refine xa rfl rfl ?_; refine WO_nil (sq_n (hK1 _ _ ?_)); refine W_seq fun K2 hK2 => ?_; refine W_region ?_; refine xm rfl rfl ?_; refine xp (v_len rfl underlying23 rfl) rfl ?_; refine ws (v_mk (bytes := 8) rfl underlying23 sizeOf3 typeInfo3 rfl zeroValue3 rfl rfl (by omega) (by omega) rfl rfl) rfl rfl rfl ?_; rintro _ _ ⟨b, rfl, rfl, _⟩; refine xa rfl rfl ?_; refine WO_nil (sq_n (hK2 _ _ ?_)); refine W.keep [0,2,3] rfl ?_; refine W_seq fun K3 hK3 => ?_; refine W_region ?_; refine xa rfl rfl ?_; refine WO_nil (sq_n (hK3 _ _ ?_)); refine W_seq fun K4 hK4 => ?_; refine W_seq fun K5 hK5 => ?_; refine W_region ?_; refine xa rfl rfl ?_; refine WO_nil (sq_n (hK5 _ _ ?_)); refine W_block ?_
  refine W_loop (fun m E H => ∃ j, j ≤ 15 ∧ m = 15 - j ∧ Sub E [(0, .slice p L.length cap), (3, .slice (some ⟨b, 0, none⟩) L.length L.length), (4, iV (cou L j).2), (5, iV (j + 1))] ∧ H = (b, .cells (List.toArray ((cou L j).1.map iV)) 3 (0, 0)) :: D) (m := _) (⟨0, by omega, rfl, ⟨rfl, rfl, rfl, rfl, trivial⟩, by simp [cou]⟩) ?_; rintro m E H ⟨j, hj, rfl, hE, rfl⟩; refine W.env hE ?_; have hcn := cn_bd hL hj; rw [← cou_snd] at hcn; refine W_seq fun K6 hK6 => ?_; refine W_seq fun K7 hK7 => ?_; refine W_region ?_; refine xm rfl rfl ?_; refine xp (n_le rfl rfl rfl) rfl ?_; refine WO_nil (sq_n (hK7 _ _ ?_)); refine W_cond rfl (fun hc0 => ?_) (fun hc0 => ?_)
  · replace hc0 := of_decide_eq_true hc0; refine W_skip (sq_n (hK6 _ _ ?_)); refine W_seq fun K8 hK8 => ?_; refine W_block ?_; refine W_seq fun K9 hK9 => ?_; refine W_region ?_; refine xm rfl rfl ?_; refine xp (n_mul rfl rfl rfl kI (by omega)) rfl ?_; refine xa rfl rfl ?_; refine WO_nil (sq_n (hK9 _ _ ?_)); refine W_seq fun K10 hK10 => ?_; refine W_region ?_; refine xm rfl rfl ?_; refine xp (v_len rfl underlying23 rfl) rfl ?_; refine xm rfl rfl ?_; refine WO_nil (sq_n (hK10 _ _ ?_)); refine W_block ?_
    refine W_loop (fun m E H => ∃ k, k ≤ L.length ∧ m = L.length - k ∧ Sub E [(0, .slice p L.length cap), (3, .slice (some ⟨b, 0, none⟩) L.length L.length), (4, iV (cin L (j + 1) k ((cou L j).1, (cou L j).2 * 2)).2), (5, iV (j + 1)), (17, .slice p L.length cap), (18, iV L.length), (19, iV k)] ∧ H = (b, .cells (List.toArray ((cin L (j + 1) k ((cou L j).1, (cou L j).2 * 2)).1.map iV)) 3 (0, 0)) :: D) (m := _) (⟨0, by omega, rfl, ⟨rfl, rfl, rfl, rfl, rfl, rfl, rfl, trivial⟩, rfl⟩) ?_; rintro m E H ⟨k, hk, rfl, hE, rfl⟩; refine W.env hE ?_; have hlen : (cin L (j + 1) k ((cou L j).1, (cou L j).2 * 2)).1.length = L.length := by rw [cin_len]; exact cou_len L j
    have hcs := cin_snd L (j + 1) k ((cou L j).1, (cou L j).2 * 2); have hrk := rank_le L (j + 1) k; simp only at hcs; refine W_seq fun K11 hK11 => ?_; refine W_region ?_; refine xp (n_lt rfl rfl rfl) rfl ?_; refine WO_nil (sq_n (hK11 _ _ ?_)); refine W_seq fun K12 hK12 => ?_; refine W_cond rfl (fun hc1 => ?_) (fun hc1 => ?_)
    · replace hc1 := of_decide_eq_true hc1; refine W_skip (sq_n (hK12 _ _ ?_)); refine W_seq fun K13 hK13 => ?_; refine W_block ?_; refine W_seq fun K14 hK14 => ?_; have hne : L ≠ [] := by intro e; subst e; exact absurd hc1 (by simp)
      obtain ⟨b2, off, c, ty, fz, r, rfl, hat, hc⟩ := hd hne; have hg : L.getD k 0 = L[k] := by simp [hc1]
      refine W_region ?_; refine xm rfl rfl ?_; refine xp (v_ixs rfl underlying23 sizeOf3 rfl rfl (by omega)) rfl ?_; refine xv (v_ld rfl rfl isAgg3 (hc _ hc1)) rfl ?_; refine xa rfl rfl ?_; refine xa rfl rfl ?_; refine WO_nil (sq_n (hK14 _ _ ?_)); refine W_seq fun K15 hK15 => ?_; refine W_region ?_; refine xm rfl rfl ?_; refine xm rfl rfl ?_; refine xp (n_eq rfl rfl rfl) rfl ?_; refine WO_nil (sq_n (hK15 _ _ ?_)); refine W_cond rfl (fun hc2 => ?_) (fun hc2 => ?_)
      · replace hc2 := of_decide_eq_true hc2; refine W_seq fun K16 hK16 => ?_; refine W_region ?_; refine xm rfl rfl ?_; refine xm rfl rfl ?_; refine xm rfl rfl ?_; refine xp (v_ixs rfl underlying23 sizeOf3 rfl rfl (by omega)) rfl ?_; refine wst' rfl rfl rfl sizeOf3 rfl List.map_set.symm (by simp only [List.length_map]; omega) rfl rfl ?_; refine WO_nil (sq_n (hK16 _ _ ?_)); refine W_region ?_; refine xm rfl rfl ?_; refine xp (n_add rfl rfl rfl kI (by omega)) rfl ?_; refine xa rfl rfl ?_; refine WO_nil (bl_n (sq_n (hK13 _ _ ?_))); refine W_region ?_; refine xp (n_add rfl rfl rfl kI (by omega)) rfl ?_; refine xm rfl rfl ?_; refine WO_nil (sq_n (?_)); refine ⟨_, by omega, k + 1, by omega, rfl, ⟨rfl, rfl, ?_, rfl, rfl, rfl, rfl, trivial⟩, ?_⟩
        · simp only [cin, hg, hc2, if_true]; try rfl
        · simp only [cin, hg, hc2, if_true]; try rfl
      · replace hc2 := of_decide_eq_false hc2; refine W_skip (bl_n (sq_n (hK13 _ _ ?_))); refine W_region ?_; refine xp (n_add rfl rfl rfl kI (by omega)) rfl ?_; refine xm rfl rfl ?_; refine WO_nil (sq_n (?_)); refine ⟨_, by omega, k + 1, by omega, rfl, ⟨rfl, rfl, ?_, rfl, rfl, rfl, rfl, trivial⟩, ?_⟩
        · simp only [cin, hg, hc2, if_false]; try rfl
        · simp only [cin, hg, hc2, if_false]; try rfl
    · replace hc1 := of_decide_eq_false hc1; refine W_exit (sq_x (sq_x (bl_x (bl_n (sq_n (hK8 _ _ ?_)))))); refine W_region ?_; refine xm rfl rfl ?_; refine xp (n_add rfl rfl rfl kI (by omega)) rfl ?_; refine xa rfl rfl ?_; refine WO_nil (sq_n (?_)); obtain rfl : k = L.length := by omega
      exact ⟨_, by omega, j + 1, by omega, rfl, ⟨rfl, rfl, rfl, rfl, trivial⟩, rfl⟩
  · replace hc0 := of_decide_eq_false hc0; refine W_exit (sq_x (sq_x (bl_x (sq_n (hK4 _ _ ?_))))); refine W.keep [3] rfl ?_; refine W_seq fun K17 hK17 => ?_; refine W_region ?_; refine xm rfl rfl ?_; refine xa rfl rfl ?_; refine WO_nil (sq_n (hK17 _ _ ?_)); refine W_ret (ret_of (v := _) rfl ?_); obtain rfl : j = 15 := by omega
    exact ⟨b, rfl, by rw [cou_codes]⟩
end
end Go.Proofs.YtpbahgddoamhgaaGreatDoor
namespace Go.Proofs.YtpbahgddoamhgaaGreatDoor.Sx
open Go Pu
section
variable {P : Program} {n : Nat} {E : El} {H : Hl} {o : Oper}
theorem v_pair {t e : TypeId} {x y : Operand} {i j : Int} {a b : Nat} (ho : o.op = .build t #[(0, x), (1, y)]) (hu : P.underlying t = some (.array 2 e)) (hz : ∀ w, (sizeOf e).run P w = .ok 1 w)
    (hzv : ∀ w, (zeroValue t).run P w = .ok (.agg #[.int .i64 0, .int .i64 0]) w) (hx : ev E x = some (.int .i64 i)) (hy : ev E y = some (.int .i64 j)) [hi : NO i a] [hj : NO j b] : OP P n E o (pairV a b) := fun s w ha => by
  obtain rfl := hi.h; obtain rfl := hj.h; simp [execOp, ho, ev_sound ha hx, ev_sound ha hy, Instr.build, underlying, hu, hz, hzv, Instr.fill, Value.cells, pairV]

theorem n_oradd2 {t t' : TypeId} {x y : Operand} {k : IntKind} {a c s M : Nat} {i j : Int} (ho : o.op = .binOp .or t x y t') (hx : ev E x = some (.int k i)) (hy : ev E y = some (.int k j)) [hi : NO i (c * 2 ^ s)] [hj : NO j a] (K : Kd k M) (h : a < M) (h2 : c * 2 ^ s < M) (h3 : a < 2 ^ s) :
    OP P n E o (.int k (c * 2 ^ s + a : Nat)) := by
  have := n_or (P := P) (n := n) ho hx hy K h2 h; rw [Nat.or_comm, or_add h3, Nat.add_comm] at this; exact this
theorem v_bxa {t : TypeId} {x : Operand} {c : List Value} (ho : o.op = .box t x) (hx : ev E x = some (.agg c.toArray)) : OS P n E H o (Fresh H (.cells c.toArray t)) := v_bx ho hx
/-- a literal of one element -/
theorem v_bs1 {t e : TypeId} {x : Operand} {v z : Value} (ho : o.op = .buildSlice t 1 #[(0, x)]) (hu : P.underlying t = some (.slice e)) (hz : ∀ w, (sizeOf e).run P w = .ok 1 w) (hzv : ∀ w, (zeroValue e).run P w = .ok z w) (hz1 : z.cells = #[z]) (hx : ev E x = some v) (hv : v.cells = #[v]) :
    OS P n E H o (fun u H' => ∃ b, u = .slice (some ⟨b, 0, none⟩) 1 1 ∧ H' = (b, .cells (List.toArray [v]) e) :: H ∧ ∀ p ∈ H, p.1 ≠ b) := fun O F a w hag hp => by
  refine ⟨_, w.alloc (.cells (List.toArray [v]) e), _, .inl ?_, ⟨w.heap.size, rfl, rfl, hp.fresh⟩, hp.cons rfl⟩; simp [execOp, ho, ev_sound hag hx, Instr.buildSlice, underlying, hu, hz, hzv, hz1, hv, Instr.fill, newRow]; have : ((Array.map (fun x => ([z] : List Value)[x % 1]?.getD default) (Array.range 1)).setIfInBounds 0 v) = #[v] := by
    apply Array.ext
    · simp
    · intro i h1 h2; have : i = 0 := by simp at h2; exact h2
      subst this; simp
  rw [this]
end

/-- a slice of one's own that holds the list L -/
def OwnV (f : Nat → Value) (ty : TypeId) (p : Option Addr) (cap : Nat) (L : List Nat) (Hs : Hl) : Prop := Own 1 ty (.slice p L.length cap) (L.map f) L.length Hs
theorem OwnV.nil {f : Nat → Value} {ty : TypeId} : OwnV f ty none 0 [] [] := ⟨rfl, .inl ⟨rfl, rfl, rfl⟩⟩
theorem OwnV.empty {f : Nat → Value} {ty : TypeId} {b : Nat} : OwnV f ty (some ⟨b, 0, none⟩) 0 [] [(b, .cells (List.toArray []) ty)] := ⟨rfl, .inr ⟨b, [], 0, rfl, Nat.le_refl _, by simp, rfl⟩⟩
theorem Own.sl {z : Nat} {ty : TypeId} {v : Value} {xs : List Value} {m : Nat} {Hs : Hl} (h : Own z ty v xs m Hs) : ∃ p cap, v = .slice p m cap ∧ m ≤ cap := by
  rcases h.2 with ⟨h1, h2, _⟩ | ⟨b, _, cap, h1, h2, _⟩
  · exact ⟨none, 0, by rw [h1, h2], by omega⟩
  · exact ⟨_, cap, h1, h2⟩
theorem OwnV.capl {f : Nat → Value} {ty : TypeId} {p : Option Addr} {cap : Nat} {L : List Nat} {Hs : Hl} (h : OwnV f ty p cap L Hs) : L.length ≤ cap := by
  obtain ⟨_, _, h1, h2⟩ := h.sl
  cases h1; exact h2
theorem Own.rd {z : Nat} {ty : TypeId} {p : Option Addr} {cap : Nat} {xs : List Value} {m : Nat} {Hs : Hl} (h : Own z ty (.slice p m cap) xs m Hs) : Rd z p xs m Hs := by
  refine ⟨h.1, fun hm => ?_⟩; rcases h.2 with ⟨h1, h2, _⟩ | ⟨b, rest, cap, h1, h2, h3, h4⟩
  · exact absurd h2 hm
  · cases h1; subst h4
    exact ⟨b, 0, _, ty, (0, 0), _, rfl, AtH.here, fun j hj => by rw [Nat.zero_add, List.getElem?_append_left (by rw [h.1]; exact hj)]⟩
theorem OwnV.dat {f : Nat → Value} {ty : TypeId} {p : Option Addr} {cap : Nat} {L : List Nat} {Hs : Hl} (h : OwnV f ty p cap L Hs) : DatV f p L Hs := fun hne => by
  have hm : L.length ≠ 0 := by intro e; exact hne (List.length_eq_zero_iff.1 e)
  obtain ⟨b, off, c, ty, fz, r, h1, h2, h3⟩ := h.rd.2 hm; exact ⟨b, off, c, ty, fz, r, h1, h2, fun i hi => by rw [h3 i (by omega)]; simp [hi]⟩
theorem DatV.nil {f : Nat → Value} {p : Option Addr} {D : Hl} : DatV f p [] D := fun h => absurd rfl h
theorem OwnV.row {f : Nat → Value} {ty : TypeId} {b : Nat} {L : List Nat} : OwnV f ty (some ⟨b, 0, none⟩) L.length L [(b, .cells (List.toArray (L.map f)) ty)] :=
  ⟨by simp, .inr ⟨b, [], L.length, rfl, Nat.le_refl _, by simp, by simp⟩⟩

section
variable {P : Program} {n : Nat} {Q : Exit → El → Hl → Prop} {E : El} {H : Hl} {ops : Array Oper} {o : Oper} {l : List Oper}
/-- append to a slice of one's own -/
theorem wapp {t t' e e' : TypeId} {x y : Operand} {bytes cap cap' d k : Nat} {zv : Value} {f : Nat → Value} {p py : Option Addr} {L M : List Nat} {Hs H2 : Hl} {ti : TypeInfo}
    (ho : o.op = .call ⟨.builtin .append, #[x, y], #[t, t']⟩) (hu : P.underlying t = some (.slice e)) (hu' : P.underlying t' = some (.slice e')) (hz : ∀ w, (sizeOf e).run P w = .ok 1 w)
    (hti : ∀ w, (typeInfo e).run P w = .ok ti w) (hby : ti.bytes = bytes) (hzv : ∀ w, (zeroValue e).run P w = .ok zv w) (hzs : zv.cells.size = 1)
    (hx : ev E x = some (.slice p L.length cap)) (hy : ev E y = some (.slice py k cap')) (hown : OwnV f e p cap L Hs) (hH : H = Hs ++ H2) (hrd : DatV f py M H) (hk : M.length = k) (hone : ∀ u, one (f u) = true) (hlen : (2 * (L.length + M.length) + 1000) * bytes ≤ 2 ^ 48) (hlen2 : L.length + M.length < 2 ^ 62)
    (hg : gd ops E o = some true) (hd : o.dst = some d) (hn : Nat.blt d n = true) (h : ∀ p' cap' Hs', OwnV f e p' cap' (L ++ M) Hs' → WO P n ops l Q ((d, .slice p' (L ++ M).length cap') :: E) (Hs' ++ H2)) : WO P n ops (o :: l) Q E H :=
  by
  subst hk; exact ws (v_app ho hu hu' hz hti hby hzv hzs hx hy hown hH hrd.rd (fun u hu => by obtain ⟨a, _, rfl⟩ := List.mem_map.1 hu; exact hone a) hlen hlen2) hg hd hn fun v H' ⟨Hs', hO, hH'⟩ => by
      subst hH'; obtain ⟨p', cap', rfl, _⟩ := hO.sl; have hO' : OwnV f e p' cap' (L ++ M) Hs' := by
        unfold OwnV; rw [List.length_append, List.map_append]; exact hO
      have := h p' cap' Hs' hO'; rwa [List.length_append] at this
/-- append one element -/
theorem wapp1 {o2 : Oper} {t e : TypeId} {x y : Operand} {bytes cap d1 d2 c : Nat} {zv u : Value} {f : Nat → Value} {p : Option Addr} {L : List Nat} {Hs H2 : Hl} {ti : TypeInfo}
    (hu : P.underlying t = some (.slice e)) (hz : ∀ w, (sizeOf e).run P w = .ok 1 w)
    (hti : ∀ w, (typeInfo e).run P w = .ok ti w) (hby : ti.bytes = bytes) (hzv : ∀ w, (zeroValue e).run P w = .ok zv w) (hzs : zv.cells = #[zv])
    (hown : OwnV f e p cap L Hs) (hH : H = Hs ++ H2) (hone : ∀ u, one (f u) = true) (hlen : (2 * (L.length + 1) + 1000) * bytes ≤ 2 ^ 48) (hb : 1 ≤ bytes)
    (ho1 : o.op = .buildSlice t 1 #[(0, y)]) (hy : ev E y = some u) (huf : u = f c) (hg1 : gd ops E o = some true) (hd1 : o.dst = some d1) (hn1 : Nat.blt d1 n = true)
    (ho2 : o2.op = .call ⟨.builtin .append, #[x, .tmp d1], #[t, t]⟩) (hd2 : o2.dst = some d2) (hn2 : Nat.blt d2 n = true)
    (hx : ∀ v, ev ((d1, v) :: E) x = some (.slice p L.length cap)) (hg2 : ∀ v, gd ops ((d1, v) :: E) o2 = some true)
    (h : ∀ vb p' cap' Hs', OwnV f e p' cap' (L ++ [c]) Hs' → WO P n ops l Q ((d2, .slice p' (L ++ [c]).length cap') :: (d1, vb) :: E) (Hs' ++ H2)) : WO P n ops (o :: o2 :: l) Q E H := by
  subst huf hH; have hcells : (f c).cells = #[f c] := by have := hone c; revert this; cases f c <;> simp [one, Value.cells]
  refine ws (v_bs1 ho1 hu hz hzv hzs hy hcells) hg1 hd1 hn1 ?_; rintro _ _ ⟨b, rfl, rfl, _⟩; have hown' : OwnV f e p cap L Hs := hown; refine WO_drop (H' := Hs ++ (b, .cells (List.toArray [f c]) e) :: H2) (H2 := []) (.of (by rw [List.append_nil]; exact List.perm_middle.symm)) ?_; have hev : ev ((d1, Value.slice (some ⟨b, 0, none⟩) 1 1) :: E) (.tmp d1) = some (.slice (some ⟨b, 0, none⟩) [c].length 1) := by simp [ev, lk]
  refine wapp (bytes := bytes) (M := [c]) ho2 hu hu hz hti hby hzv (by rw [hzs]; rfl) (hx _) hev hown' rfl ?_ rfl hone (by simpa using hlen) (by
    have := Nat.mul_le_mul_left (2 * (L.length + 1) + 1000) hb; simp only [List.length_cons, List.length_nil]; omega) (hg2 _) hd2 hn2 ?_
  · exact fun _ => ⟨b, 0, [f c], e, (0, 0), _, rfl, AtH.app, fun i hi => by
      have : i = 0 := by simpa using hi
      subst this; rfl⟩
  · intro p' cap' Hs' hO; refine WO_drop (H2 := [(b, .cells (List.toArray [f c]) e)]) (.of ?_) (h _ p' cap' Hs' hO); rw [List.append_assoc]; exact List.Perm.append_left _ (List.perm_append_singleton _ _).symm
end
end Go.Proofs.YtpbahgddoamhgaaGreatDoor.Sx
namespace Go.Proofs.YtpbahgddoamhgaaGreatDoor.Pu

def RS.bad (s : RS) : RS := ⟨s.at_, true⟩
@[simp] theorem RS.bad_at (s : RS) : s.bad.at_ = s.at_ := rfl
@[simp] theorem RS.bad_fail (s : RS) : s.bad.fail = true := rfl

theorem rbit_mono (B : List Nat) (s : RS) : s.at_ ≤ (rbit B s).2.at_ := by
  unfold rbit; split
  · exact Nat.le_refl _
  · split
    · exact Nat.le_refl _
    · simp
theorem rbit_ok {B : List Nat} {s : RS} (h : (rbit B s).2.fail = false) : s.fail = false ∧ (rbit B s).2.at_ = s.at_ + 1 ∧ s.at_ < 8 * B.length ∧ (rbit B s).1 = bitAt B s.at_ := by
  unfold rbit at h ⊢; split at h
  · simp at h
  · split at h
    · simp at h
    · rename_i h1 h2; rw [if_neg h1, if_neg h2]; exact ⟨by simpa using h1, rfl, by omega, rfl⟩
theorem rbits_mono (B : List Nat) (k : Nat) (s : RS) : s.at_ ≤ (rbits B k s).2.at_ := by
  induction k with
  | zero => exact Nat.le_refl _
  | succ k ih => exact Nat.le_trans ih (rbit_mono _ _)
theorem rbits_ok {B : List Nat} {k : Nat} {s : RS} (h : (rbits B k s).2.fail = false) : s.fail = false ∧ (rbits B k s).2.at_ = s.at_ + k := by
  induction k with
  | zero => exact ⟨h, rfl⟩
  | succ k ih =>
    obtain ⟨h1, h2, _⟩ := rbit_ok h; obtain ⟨h3, h4⟩ := ih h1; exact ⟨h3, by simp only [rbits]; rw [h2, h4]; omega⟩
theorem symF_ok {B : List Nat} {l : Ents} : ∀ (k long n : Nat) (s : RS), (symF B l k long n s).2.fail = false → s.fail = false ∧ s.at_ < (symF B l k long n s).2.at_
  | 0, _, _, s, h => by simp [symF] at h
  | k + 1, long, n, s, h => by
    simp only [symF] at h ⊢
    split
    · rename_i y hy; rw [hy] at h; simp only at h
      split
      · rename_i h1; rw [if_pos h1] at h; have := symF_ok k _ _ _ h; rw [this.1] at h1; cases h1
      · rename_i h1; have h2 : (rbit B s).2.fail = false := by simpa using h1
        obtain ⟨h3, h4, _⟩ := rbit_ok h2; exact ⟨h3, by simp only; omega⟩
    · rename_i hy; rw [hy] at h; simp only at h; have := symF_ok k _ _ _ h; obtain ⟨h3, h4, _⟩ := rbit_ok this.1; exact ⟨h3, by omega⟩
theorem symF_mono {B : List Nat} {l : Ents} : ∀ (k long n : Nat) (s : RS), s.at_ ≤ (symF B l k long n s).2.at_
  | 0, _, _, s => Nat.le_refl _
  | k + 1, long, n, s => by
    have h1 := rbit_mono B s; simp only [symF]
    split
    · split
      · exact Nat.le_trans h1 (symF_mono k _ _ _)
      · exact h1
    · exact Nat.le_trans h1 (symF_mono k _ _ _)
theorem sym_ok {B : List Nat} {l : Ents} {s : RS} (h : (sym B l s).2.fail = false) : s.fail = false ∧ s.at_ < (sym B l s).2.at_ := symF_ok _ _ _ _ h
theorem sym_lt {B L : List Nat} {j : Nat} (hj : 0 < j) (s : RS) : (sym B (ents L j) s).1 < j := symF_lt hj _ _ _ _

/-- a block that is not compressed -/
def rstored (B out : List Nat) (s : RS) : List Nat × RS :=
  if (rbits B 16 (rbits B 16 (ralign s)).2).2.fail = true ∨ (rbits B 16 (ralign s)).1 ^^^ (rbits B 16 (rbits B 16 (ralign s)).2).1 ≠ 65535 ∨ B.length < (rbits B 16 (rbits B 16 (ralign s)).2).2.at_ / 8 + (rbits B 16 (ralign s)).1
  then (out, (rbits B 16 (rbits B 16 (ralign s)).2).2.bad)
  else (out ++ (B.take ((rbits B 16 (rbits B 16 (ralign s)).2).2.at_ / 8 + (rbits B 16 (ralign s)).1)).drop ((rbits B 16 (rbits B 16 (ralign s)).2).2.at_ / 8), ⟨(rbits B 16 (rbits B 16 (ralign s)).2).2.at_ + 8 * (rbits B 16 (ralign s)).1, false⟩)
theorem ralign_le {B : List Nat} {s : RS} (h : s.at_ ≤ 8 * B.length) : (ralign s).at_ ≤ 8 * B.length := by
  show (s.at_ + 7) / 8 * 8 ≤ _; omega

theorem len_table0 : ∀ i, i < 29 → lenBase (257 + i) + 2 ^ lenExtra (257 + i) ≤ 259 ∧ lenExtra (257 + i) ≤ 5 ∧ 3 ≤ lenBase (257 + i) := by decide
theorem len_table (y : Nat) (h : y < 286) (h2 : 257 ≤ y) : lenBase y + 2 ^ lenExtra y ≤ 259 ∧ lenExtra y ≤ 5 ∧ 3 ≤ lenBase y := by
  have := len_table0 (y - 257) (by omega); rwa [show 257 + (y - 257) = y by omega] at this
theorem dist_table : ∀ d, d < 30 → distBase d + 2 ^ distExtra d ≤ 32769 ∧ distExtra d ≤ 13 ∧ 1 ≤ distBase d := by decide

/-- a match, byte by byte -/
def cpy (far : Nat) : Nat → List Nat → List Nat
  | 0, out => out
  | k + 1, out => cpy far k (out ++ [out.getD (out.length - far) 0])
theorem cpy_length (far : Nat) : ∀ (k : Nat) (out : List Nat), (cpy far k out).length = out.length + k
  | 0, _ => rfl
  | k + 1, out => by rw [cpy, cpy_length]; simp; omega
theorem cpy_succ (far : Nat) : ∀ (k : Nat) (out : List Nat), cpy far (k + 1) out = cpy far k out ++ [(cpy far k out).getD ((cpy far k out).length - far) 0]
  | 0, _ => rfl
  | k + 1, out => by rw [cpy, cpy_succ far k]; rfl

/-- the data of a block -/
def rblk (B : List Nat) (l d : Ents) : Nat → List Nat → RS → List Nat × RS
  | 0, out, s => (out, s)
  | k + 1, out, s =>
    if s.fail = true then (out, s)
    else if (sym B l s).2.fail = true ∨ (sym B l s).1 = 256 then (out, (sym B l s).2)
    else if (sym B l s).1 < 256 then rblk B l d k (out ++ [(sym B l s).1]) (sym B l s).2
    else if 285 < (sym B l s).1 then (out, (sym B l s).2.bad)
    else if 29 < (sym B d (rbits B (lenExtra (sym B l s).1) (sym B l s).2).2).1 then (out, (sym B d (rbits B (lenExtra (sym B l s).1) (sym B l s).2).2).2.bad)
    else if (rbits B (distExtra (sym B d (rbits B (lenExtra (sym B l s).1) (sym B l s).2).2).1) (sym B d (rbits B (lenExtra (sym B l s).1) (sym B l s).2).2).2).2.fail = true ∨
        out.length < distBase (sym B d (rbits B (lenExtra (sym B l s).1) (sym B l s).2).2).1 + (rbits B (distExtra (sym B d (rbits B (lenExtra (sym B l s).1) (sym B l s).2).2).1) (sym B d (rbits B (lenExtra (sym B l s).1) (sym B l s).2).2).2).1
      then (out, (rbits B (distExtra (sym B d (rbits B (lenExtra (sym B l s).1) (sym B l s).2).2).1) (sym B d (rbits B (lenExtra (sym B l s).1) (sym B l s).2).2).2).2.bad)
    else rblk B l d k (cpy (distBase (sym B d (rbits B (lenExtra (sym B l s).1) (sym B l s).2).2).1 + (rbits B (distExtra (sym B d (rbits B (lenExtra (sym B l s).1) (sym B l s).2).2).1) (sym B d (rbits B (lenExtra (sym B l s).1) (sym B l s).2).2).2).1)
        (lenBase (sym B l s).1 + (rbits B (lenExtra (sym B l s).1) (sym B l s).2).1) out)
      (rbits B (distExtra (sym B d (rbits B (lenExtra (sym B l s).1) (sym B l s).2).2).1) (sym B d (rbits B (lenExtra (sym B l s).1) (sym B l s).2).2).2).2
theorem rblk_bad {B : List Nat} {l d : Ents} {out : List Nat} {s : RS} (h : s.fail = true) : ∀ k, rblk B l d k out s = (out, s)
  | 0 => rfl
  | k + 1 => by rw [rblk, if_pos h]
theorem rblk_le {B : List Nat} {l d : Ents} : ∀ (k : Nat) (out : List Nat) (s : RS), s.at_ ≤ 8 * B.length → (rblk B l d k out s).2.at_ ≤ 8 * B.length
  | 0, out, s, h => h
  | k + 1, out, s, h => by
    have h1 := sym_le (l := l) h; have h2 := rbits_le (lenExtra (sym B l s).1) h1; have h3 := sym_le (l := d) h2; have h4 := rbits_le (distExtra (sym B d (rbits B (lenExtra (sym B l s).1) (sym B l s).2).2).1) h3; simp only [rblk]
    split
    · exact h
    · split
      · exact h1
      · split
        · exact rblk_le k _ _ h1
        · split
          · exact h1
          · split
            · exact h3
            · split
              · exact h4
              · exact rblk_le k _ _ h4
theorem rblk_mono {B : List Nat} {l d : Ents} : ∀ (k : Nat) (out : List Nat) (s : RS), s.at_ ≤ (rblk B l d k out s).2.at_
  | 0, out, s => Nat.le_refl _
  | k + 1, out, s => by
    have h1 := symF_mono (l := l) 15 1 0 s (B := B); have h2 := rbits_mono B (lenExtra (sym B l s).1) (sym B l s).2; have h3 := symF_mono (l := d) 15 1 0 (rbits B (lenExtra (sym B l s).1) (sym B l s).2).2 (B := B); have h4 := rbits_mono B (distExtra (sym B d (rbits B (lenExtra (sym B l s).1) (sym B l s).2).2).1) (sym B d (rbits B (lenExtra (sym B l s).1) (sym B l s).2).2).2; simp only [rblk]; change s.at_ ≤ (sym B l s).2.at_ at h1; change _ ≤ (sym B d _).2.at_ at h3
    split
    · exact Nat.le_refl _
    · split
      · exact h1
      · split
        · exact Nat.le_trans h1 (rblk_mono k _ _)
        · split
          · exact h1
          · split
            · exact Nat.le_trans h1 (Nat.le_trans h2 h3)
            · split
              · exact Nat.le_trans h1 (Nat.le_trans h2 (Nat.le_trans h3 h4))
              · exact Nat.le_trans h1 (Nat.le_trans h2 (Nat.le_trans h3 (Nat.le_trans h4 (rblk_mono k _ _))))
/-- how much a match may be -/
theorem match_len {y x : Nat} (h : ¬ y = 256) (h1 : ¬ y < 256) (h2 : ¬ 285 < y) (hx : x < 2 ^ lenExtra y) : lenBase y + x ≤ 258 := by
  have := (len_table y (by omega) (by omega)).1; omega
theorem rblk_len {B : List Nat} {l d : Ents} : ∀ (k : Nat) (out : List Nat) (s : RS), out.length ≤ 129 * s.at_ → (rblk B l d k out s).1.length ≤ 129 * (rblk B l d k out s).2.at_
  | 0, out, s, h => h
  | k + 1, out, s, h => by
    have h1 := symF_mono (l := l) 15 1 0 s (B := B); have h2 := rbits_mono B (lenExtra (sym B l s).1) (sym B l s).2; have h3 := symF_mono (l := d) 15 1 0 (rbits B (lenExtra (sym B l s).1) (sym B l s).2).2 (B := B); have h4 := rbits_mono B (distExtra (sym B d (rbits B (lenExtra (sym B l s).1) (sym B l s).2).2).1) (sym B d (rbits B (lenExtra (sym B l s).1) (sym B l s).2).2).2; have hx := rbits_lt B (lenExtra (sym B l s).1) (sym B l s).2; simp only [rblk]; change s.at_ ≤ (sym B l s).2.at_ at h1; change _ ≤ (sym B d _).2.at_ at h3
    split
    · exact h
    · split
      · exact Nat.le_trans h (Nat.mul_le_mul_left _ h1)
      · rename_i hf; have hok := (sym_ok (B := B) (l := l) (s := s) (by simpa using fun e => hf (.inl e))).2
        split
        · refine rblk_len k _ _ ?_; simp only [List.length_append, List.length_cons, List.length_nil]; omega
        · rename_i hy
          split
          · simp only [RS.bad_at]; omega
          · rename_i hy2; have hm := match_len (fun e => hf (.inr e)) hy hy2 hx
            split
            · simp only [RS.bad_at]; omega
            · split
              · simp only [RS.bad_at]; omega
              · rename_i hc5; have hf4 : (rbits B (distExtra (sym B d (rbits B (lenExtra (sym B l s).1) (sym B l s).2).2).1) (sym B d (rbits B (lenExtra (sym B l s).1) (sym B l s).2).2).2).2.fail = false := by simpa using fun e => hc5 (.inl e)
                have hok2 := (sym_ok (B := B) (l := d) (rbits_ok hf4).1).2; refine rblk_len k _ _ ?_; rw [cpy_length]; omega
def rblock (B L1 L2 out : List Nat) (s : RS) : List Nat × RS :=
  rblk B (ents L1 L1.length) (ents L2 L2.length) (8 * B.length + 1) out (if okCode L1 = true ∧ okCode L2 = true then s else s.bad)

/-- the lengths of the code for lengths -/
def orderL : List Nat := [16, 17, 18, 0, 8, 7, 9, 6, 10, 5, 11, 4, 12, 3, 13, 2, 14, 1, 15]
def rclen (B : List Nat) (s : RS) : Nat → List Nat × RS
  | 0 => (List.replicate 19 0, s)
  | i + 1 => ((rclen B s i).1.set (orderL.getD i 0) (rbits B 3 (rclen B s i).2).1, (rbits B 3 (rclen B s i).2).2)
theorem rclen_length (B : List Nat) (s : RS) (i : Nat) : (rclen B s i).1.length = 19 := by
  induction i with
  | zero => simp [rclen]
  | succ i ih => simp [rclen, ih]
theorem rclen_le {B : List Nat} {s : RS} (h : s.at_ ≤ 8 * B.length) (i : Nat) : (rclen B s i).2.at_ ≤ 8 * B.length := by
  induction i with
  | zero => exact h
  | succ i ih => exact rbits_le 3 ih
theorem rclen_mem {B : List Nat} {s : RS} (i : Nat) : ∀ x ∈ (rclen B s i).1, x ≤ 7 := by
  induction i with
  | zero => intro x hx; simp [rclen] at hx; omega
  | succ i ih =>
    intro x hx; simp only [rclen] at hx; rcases List.mem_or_eq_of_mem_set hx with h | h
    · exact ih x h
    · have := rbits_lt B 3 (rclen B s i).2; omega
theorem rclen_mono {B : List Nat} {s : RS} (i : Nat) : s.at_ ≤ (rclen B s i).2.at_ := by
  induction i with
  | zero => exact Nat.le_refl _
  | succ i ih => exact Nat.le_trans ih (rbits_mono _ _ _)

def rall (B : List Nat) (c : Ents) (N : Nat) : Nat → List Nat → RS → List Nat × RS
  | 0, all, s => (all, s)
  | k + 1, all, s =>
    if s.fail = true ∨ N ≤ all.length then (all, s)
    else if (sym B c s).1 < 16 then rall B c N k (all ++ [(sym B c s).1]) (sym B c s).2
    else if (sym B c s).1 = 16 ∧ all.length = 0 then rall B c N k all (sym B c s).2.bad
    else if (sym B c s).1 = 16 then rall B c N k (all ++ List.replicate (3 + (rbits B 2 (sym B c s).2).1) (all.getD (all.length - 1) 0)) (rbits B 2 (sym B c s).2).2
    else if (sym B c s).1 = 17 then rall B c N k (all ++ List.replicate (3 + (rbits B 3 (sym B c s).2).1) 0) (rbits B 3 (sym B c s).2).2
    else rall B c N k (all ++ List.replicate (11 + (rbits B 7 (sym B c s).2).1) 0) (rbits B 7 (sym B c s).2).2
theorem rall_end {B : List Nat} {c : Ents} {N : Nat} {all : List Nat} {s : RS} (h : s.fail = true ∨ N ≤ all.length) : ∀ k, rall B c N k all s = (all, s)
  | 0 => rfl
  | k + 1 => by rw [rall, if_pos h]

/-- the codes of a block that tells them -/
structure DY where
  lits : List Nat
  dists : List Nat
  s : RS
def rdyn4 (nl nd : Nat) (r : List Nat × RS) : DY :=
  if r.2.fail = true ∨ r.1.length ≠ nl + nd then ⟨[], [], r.2.bad⟩ else ⟨r.1.take nl, r.1.drop nl, r.2⟩
def rdyn3 (B : List Nat) (nl nd : Nat) (q : List Nat × RS) : DY :=
  rdyn4 nl nd (rall B (ents q.1 19) (nl + nd) (nl + nd + 1) [] (if okCode q.1 = true then q.2 else q.2.bad))
def rdyn2 (B : List Nat) (nl nd nc : Nat) (s : RS) : DY := if 286 < nl ∨ 30 < nd then ⟨[], [], s.bad⟩ else rdyn3 B nl nd (rclen B s nc)
def rdyn (B : List Nat) (s : RS) : DY :=
  rdyn2 B ((rbits B 5 s).1 + 257) ((rbits B 5 (rbits B 5 s).2).1 + 1) ((rbits B 4 (rbits B 5 (rbits B 5 s).2).2).1 + 4) (rbits B 4 (rbits B 5 (rbits B 5 s).2).2).2

theorem rall_le15 {B : List Nat} {c : Ents} {N : Nat} : ∀ (k : Nat) (all : List Nat) (s : RS), (∀ x ∈ all, x ≤ 15) → ∀ x ∈ (rall B c N k all s).1, x ≤ 15
  | 0, all, s, h => h
  | k + 1, all, s, h => by
    have hr : ∀ (many w : Nat), w ≤ 15 → ∀ x ∈ all ++ List.replicate many w, x ≤ 15 := fun many w hw x hx => by
      rcases List.mem_append.1 hx with hx | hx
      · exact h x hx
      · rw [(List.mem_replicate.1 hx).2]; exact hw
    rw [rall]
    split
    · exact h
    · split
      · exact rall_le15 k _ _ fun x hx => by
          rcases List.mem_append.1 hx with hx | hx
          · exact h x hx
          · have : x = (sym B c s).1 := by simpa using hx
            omega
      · split
        · exact rall_le15 k _ _ h
        · split
          · refine rall_le15 k _ _ (hr _ _ ?_); rcases Nat.lt_or_ge (all.length - 1) all.length with h1 | h1
            · rw [List.getD_eq_getElem?_getD, List.getElem?_eq_getElem h1]; exact h _ (List.getElem_mem h1)
            · rw [List.getD_eq_getElem?_getD, List.getElem?_eq_none h1]; simp
          · split
            · exact rall_le15 k _ _ (hr _ _ (by omega))
            · exact rall_le15 k _ _ (hr _ _ (by omega))
theorem rall_le {B : List Nat} {c : Ents} {N : Nat} : ∀ (k : Nat) (all : List Nat) (s : RS), s.at_ ≤ 8 * B.length → (rall B c N k all s).2.at_ ≤ 8 * B.length
  | 0, all, s, h => h
  | k + 1, all, s, h => by
    have h1 := sym_le (l := c) h; rw [rall]
    split
    · exact h
    · split
      · exact rall_le k _ _ h1
      · split
        · exact rall_le k _ _ h1
        · split
          · exact rall_le k _ _ (rbits_le _ h1)
          · split
            · exact rall_le k _ _ (rbits_le _ h1)
            · exact rall_le k _ _ (rbits_le _ h1)
theorem rall_mono {B : List Nat} {c : Ents} {N : Nat} : ∀ (k : Nat) (all : List Nat) (s : RS), s.at_ ≤ (rall B c N k all s).2.at_
  | 0, all, s => Nat.le_refl _
  | k + 1, all, s => by
    have h1 := symF_mono (l := c) 15 1 0 s (B := B); change s.at_ ≤ (sym B c s).2.at_ at h1; rw [rall]
    split
    · exact Nat.le_refl _
    · split
      · exact Nat.le_trans h1 (rall_mono k _ _)
      · split
        · have := rall_mono (B := B) (c := c) (N := N) k all (sym B c s).2.bad; exact Nat.le_trans h1 this
        · split
          · exact Nat.le_trans h1 (Nat.le_trans (rbits_mono _ _ _) (rall_mono k _ _))
          · split
            · exact Nat.le_trans h1 (Nat.le_trans (rbits_mono _ _ _) (rall_mono k _ _))
            · exact Nat.le_trans h1 (Nat.le_trans (rbits_mono _ _ _) (rall_mono k _ _))
theorem rdyn_facts {B : List Nat} {s : RS} (h : s.at_ ≤ 8 * B.length) : (rdyn B s).s.at_ ≤ 8 * B.length ∧ s.at_ ≤ (rdyn B s).s.at_ ∧ (rdyn B s).lits.length ≤ 286 ∧ (rdyn B s).dists.length ≤ 30 ∧ (∀ x ∈ (rdyn B s).lits, x ≤ 15) ∧ (∀ x ∈ (rdyn B s).dists, x ≤ 15) := by
  have a1 := rbits_le 5 h; have a2 := rbits_le 5 a1; have a3 := rbits_le 4 a2; have b1 := rbits_mono B 5 s; have b2 := rbits_mono B 5 (rbits B 5 s).2; have b3 := rbits_mono B 4 (rbits B 5 (rbits B 5 s).2).2; have c1 := rbits_lt B 5 s; have c2 := rbits_lt B 5 (rbits B 5 s).2; unfold rdyn; generalize rbits B 4 (rbits B 5 (rbits B 5 s).2).2 = g3 at *; generalize rbits B 5 (rbits B 5 s).2 = g2 at *; generalize rbits B 5 s = g1 at *; unfold rdyn2
  split
  · exact ⟨a3, Nat.le_trans b1 (Nat.le_trans b2 b3), by simp, by simp, by simp, by simp⟩
  · rename_i hn; have d1 := rclen_le (B := B) (s := g3.2) a3 (g3.1 + 4); have d2 := rclen_mono (B := B) (s := g3.2) (g3.1 + 4); unfold rdyn3; generalize rclen B g3.2 (g3.1 + 4) = q at *; obtain ⟨s0, hs0, e0⟩ : ∃ s0 : RS, s0 = (if okCode q.1 = true then q.2 else q.2.bad) ∧ s0.at_ = q.2.at_ := ⟨_, rfl, by split <;> rfl⟩; rw [← hs0]; have f1 := rall_le (B := B) (c := ents q.1 19) (N := g1.1 + 257 + (g2.1 + 1)) (g1.1 + 257 + (g2.1 + 1) + 1) [] s0 (by omega); have f2 := rall_mono (B := B) (c := ents q.1 19) (N := g1.1 + 257 + (g2.1 + 1)) (g1.1 + 257 + (g2.1 + 1) + 1) [] s0; have f3 := rall_le15 (B := B) (c := ents q.1 19) (N := g1.1 + 257 + (g2.1 + 1)) (g1.1 + 257 + (g2.1 + 1) + 1) [] s0 (by simp); generalize rall B (ents q.1 19) (g1.1 + 257 + (g2.1 + 1)) (g1.1 + 257 + (g2.1 + 1) + 1) [] s0 = r at *; have g : s.at_ ≤ r.2.at_ := by omega
    unfold rdyn4
    split
    · exact ⟨f1, g, by simp, by simp, by simp, by simp⟩
    · rename_i hr; have hlen : r.1.length = g1.1 + 257 + (g2.1 + 1) := by
        rcases Nat.decEq r.1.length (g1.1 + 257 + (g2.1 + 1)) with h | h
        · exact absurd (.inr h) hr
        · exact h
      refine ⟨f1, g, by simp; omega, by simp; omega, fun x hx => f3 x (List.mem_of_mem_take hx), fun x hx => f3 x (List.mem_of_mem_drop hx)⟩

def fixf (i : Nat) : Nat := if i < 144 then 8 else if i < 256 then 9 else if i < 280 then 7 else 8
def fixL : List Nat := (List.range 288).map fixf
def fixD : List Nat := List.replicate 32 5

def rone (B : List Nat) (k : Nat) (out : List Nat) (s : RS) : List Nat × RS :=
  if k = 0 then rstored B out s
  else if k = 1 then rblock B fixL fixD out s
  else if k = 2 then (if (rdyn B s).s.fail = true then (out, (rdyn B s).s) else rblock B (rdyn B s).lits (rdyn B s).dists out (rdyn B s).s)
  else (out, s.bad)
def rinf (B : List Nat) : Nat → List Nat → Nat → RS → List Nat × RS
  | 0, out, _, s => (out, s)
  | k + 1, out, last, s =>
    if last ≠ 0 ∨ s.fail = true then (out, s)
    else rinf B k (rone B (rbits B 2 (rbit B s).2).1 out (rbits B 2 (rbit B s).2).2).1 (rbit B s).1 (rone B (rbits B 2 (rbit B s).2).1 out (rbits B 2 (rbit B s).2).2).2
theorem rinf_end {B : List Nat} {out : List Nat} {last : Nat} {s : RS} (h : last ≠ 0 ∨ s.fail = true) : ∀ k, rinf B k out last s = (out, s)
  | 0 => rfl
  | k + 1 => by rw [rinf, if_pos h]
/-- the data and how many bytes, or nothing -/
def rinflate (B : List Nat) : Option (List Nat × Nat) :=
  let r := rinf B (8 * B.length + 2) [] 0 ⟨0, false⟩
  if r.2.fail = true then none else some (r.1, (ralign r.2).at_ / 8)

theorem rstored_facts {B out : List Nat} {s : RS} (h : s.at_ ≤ 8 * B.length) (ho : out.length ≤ 129 * s.at_) : (rstored B out s).2.at_ ≤ 8 * B.length ∧ s.at_ ≤ (rstored B out s).2.at_ ∧ (rstored B out s).1.length ≤ 129 * (rstored B out s).2.at_ := by
  have a1 := ralign_le (B := B) h; have a2 := rbits_le 16 a1; have a3 := rbits_le 16 a2; have b0 : s.at_ ≤ (ralign s).at_ := by show _ ≤ (s.at_ + 7) / 8 * 8; omega
  have b8 : (ralign s).at_ % 8 = 0 := Nat.mul_mod_left _ _; have b1 := rbits_mono B 16 (ralign s); have b2 := rbits_mono B 16 (rbits B 16 (ralign s)).2; unfold rstored
  split
  · exact ⟨a3, Nat.le_trans b0 (Nat.le_trans b1 b2), by simp only [RS.bad_at]; omega⟩
  · rename_i hn; have hf : (rbits B 16 (rbits B 16 (ralign s)).2).2.fail = false := by
      cases hc : (rbits B 16 (rbits B 16 (ralign s)).2).2.fail
      · rfl
      · exact absurd (.inl hc) hn
    have hl : ¬ B.length < (rbits B 16 (rbits B 16 (ralign s)).2).2.at_ / 8 + (rbits B 16 (ralign s)).1 := fun h => hn (.inr (.inr h)); obtain ⟨e1, e2⟩ := rbits_ok hf; obtain ⟨_, e3⟩ := rbits_ok e1; refine ⟨by simp only; omega, by simp only; omega, ?_⟩; simp only [List.length_append, List.length_drop, List.length_take]; omega
theorem rblock_facts {B L1 L2 out : List Nat} {s : RS} (h : s.at_ ≤ 8 * B.length) (ho : out.length ≤ 129 * s.at_) : (rblock B L1 L2 out s).2.at_ ≤ 8 * B.length ∧ s.at_ ≤ (rblock B L1 L2 out s).2.at_ ∧ (rblock B L1 L2 out s).1.length ≤ 129 * (rblock B L1 L2 out s).2.at_ := by
  unfold rblock
  split
  · exact ⟨rblk_le _ _ _ h, rblk_mono _ _ _, rblk_len _ _ _ ho⟩
  · exact ⟨rblk_le _ _ s.bad h, rblk_mono _ _ s.bad, rblk_len _ _ s.bad ho⟩
theorem rone_facts {B out : List Nat} {s : RS} (k : Nat) (h : s.at_ ≤ 8 * B.length) (ho : out.length ≤ 129 * s.at_) : (rone B k out s).2.at_ ≤ 8 * B.length ∧ s.at_ ≤ (rone B k out s).2.at_ ∧ (rone B k out s).1.length ≤ 129 * (rone B k out s).2.at_ := by
  unfold rone
  split
  · exact rstored_facts h ho
  · split
    · exact rblock_facts h ho
    · split
      · obtain ⟨h1, h2, _⟩ := rdyn_facts h
        split
        · exact ⟨h1, h2, by simp only; omega⟩
        · obtain ⟨h3, h4, h5⟩ := rblock_facts (L1 := (rdyn B s).lits) (L2 := (rdyn B s).dists) (out := out) h1 (by omega); exact ⟨h3, Nat.le_trans h2 h4, h5⟩
      · exact ⟨h, Nat.le_refl _, ho⟩
theorem rbits_fail {B : List Nat} {s : RS} (h : s.fail = true) : ∀ k, (rbits B k s) = (0, s)
  | 0 => rfl
  | k + 1 => by
    rw [rbits, rbits_fail h k]; have : rbit B s = (0, s) := by unfold rbit; rw [if_pos h]; cases s; simp_all
    simp [this]
theorem rblk_ok {B : List Nat} {l d : Ents} : ∀ (k : Nat) (out : List Nat) (s : RS), (rblk B l d k out s).2.fail = false → s.fail = false
  | 0, out, s, h => h
  | k + 1, out, s, h => by
    cases hf : s.fail
    · rfl
    · rw [rblk, if_pos hf] at h; rw [hf] at h; cases h
theorem rblock_ok {B L1 L2 out : List Nat} {s : RS} (h : (rblock B L1 L2 out s).2.fail = false) : s.fail = false ∧ okCode L1 = true ∧ okCode L2 = true := by
  unfold rblock at h
  split at h
  · rename_i h1; exact ⟨rblk_ok _ _ _ h, h1⟩
  · have := rblk_ok _ _ _ h
    cases this
theorem rone_ok {B out : List Nat} {s : RS} {k : Nat} (h : (rone B k out s).2.fail = false) : s.fail = false := by
  unfold rone at h
  split at h
  · unfold rstored at h
    split at h
    · cases h
    · rename_i hn; have hf : (rbits B 16 (rbits B 16 (ralign s)).2).2.fail = false := by
        cases hc : (rbits B 16 (rbits B 16 (ralign s)).2).2.fail
        · rfl
        · exact absurd (.inl hc) hn
      obtain ⟨e1, e2⟩ := rbits_ok hf; exact (rbits_ok e1).1
  · split at h
    · exact (rblock_ok h).1
    · split at h
      · cases hs : s.fail
        · rfl
        · exfalso
          have hd : (rdyn B s).s.fail = true := by
            unfold rdyn; rw [rbits_fail hs 5, rbits_fail hs 5, rbits_fail hs 4]; unfold rdyn2; rw [if_neg (by simp)]; unfold rdyn3; have hq : ∀ i, (rclen B s i).2 = s := fun i => by
              induction i with
              | zero => rfl
              | succ i ih => simp only [rclen, ih, rbits_fail hs]
            rw [hq]; have : (if okCode (rclen B s (0 + 4)).1 = true then s else s.bad).fail = true := by split <;> simp [hs]
            unfold rdyn4; rw [rall_end (.inl this), if_pos (.inl this)]; rfl
          rw [if_pos hd] at h; rw [hd] at h; cases h
      · cases h

def adl : List Nat → Nat × Nat → Nat × Nat
  | [], x => x
  | c :: l, x => adl l ((x.1 + c) % 65521, (x.2 + (x.1 + c) % 65521) % 65521)
def adler (L : List Nat) : Nat := (adl L (1, 0)).2 * 65536 + (adl L (1, 0)).1
end Go.Proofs.YtpbahgddoamhgaaGreatDoor.Pu
namespace Go.Proofs.YtpbahgddoamhgaaGreatDoor
open Go.Proofs.Tryz
open Go Sx Pu
set_option maxRecDepth 10000

section
variable {p : Option Addr} {cap rb : Nat} {L B : List Nat} {D : Hl}

theorem newCode_spec (hd : DatI p L D) (hL : L.length ≤ 320) (h15 : ∀ x ∈ L, x ≤ 15) :
    CallsL Tryz.prog 39 #[.slice p L.length cap] D fun v H' => ∃ b, v = .tuple #[.map (some b), .bool (okCode L)] ∧ H' = (b, mapO (ents L L.length)) :: D := by
  refine CallsL_of func39 rfl ntmps39 rfl ?_
  try dsimp only [initE, Nat.zero_add]
  refine W_seq fun K1 hK1 => ?_; refine W_region ?_; refine xa rfl rfl ?_; refine xa rfl rfl ?_; refine WO_nil (sq_n (hK1 _ _ ?_)); refine W_seq fun K2 hK2 => ?_; refine W_region ?_; refine ws (v_mm rfl) rfl rfl rfl ?_; rintro _ _ ⟨b, rfl, rfl, _⟩; refine xa rfl rfl ?_; refine WO_nil (sq_n (hK2 _ _ ?_)); refine W_seq fun K3 hK3 => ?_; refine W_region ?_; refine xa rfl rfl ?_; refine xa rfl rfl ?_; refine xa rfl rfl ?_; refine WO_nil (sq_n (hK3 _ _ ?_)); refine W_seq fun K4 hK4 => ?_; refine W_seq fun K5 hK5 => ?_; refine W_region ?_; refine xm rfl rfl ?_; refine xp (v_len rfl underlying23 rfl) rfl ?_; refine xm rfl rfl ?_; refine WO_nil (sq_n (hK5 _ _ ?_)); refine W_block ?_
  refine W_loop (fun m E H => ∃ k, k ≤ L.length ∧ m = L.length - k ∧ Sub E [(0, .slice p L.length cap), (4, .map (some b)), (5, iV (ksum L k)), (6, iV (kmany L k)), (7, iV (kones L k)), (13, .slice p L.length cap), (14, iV L.length), (15, iV k)] ∧ H = (b, mapO []) :: D) (m := _) (⟨0, by omega, rfl, ⟨rfl, rfl, rfl, rfl, rfl, rfl, rfl, rfl, trivial⟩, rfl⟩) ?_; rintro m E H ⟨k, hk, rfl, hE, rfl⟩; refine W.env hE ?_; have hk1 := ksum_le L k; have hk2 := kmany_le L k; have hk3 := kones_le L k; refine W_seq fun K6 hK6 => ?_; refine W_region ?_; refine xp (n_lt rfl rfl rfl) rfl ?_; refine WO_nil (sq_n (hK6 _ _ ?_)); refine W_seq fun K7 hK7 => ?_; refine W_cond rfl (fun hc0 => ?_) (fun hc0 => ?_)
  · replace hc0 := of_decide_eq_true hc0; refine W_skip (sq_n (hK7 _ _ ?_)); refine W_seq fun K8 hK8 => ?_; refine W_block ?_; refine W_seq fun K9 hK9 => ?_; have hne : L ≠ [] := by intro e; subst e; exact absurd hc0 (by simp)
    obtain ⟨b2, off, c, ty, fz, r, rfl, hat, hc⟩ := hd hne; have hg : L.getD k 0 = L[k] := by simp [hc0]
    have hx15 := h15 _ (List.getElem_mem hc0); have hpw := pow15 L[k]; refine W_region ?_; refine xp (v_ixs rfl underlying23 sizeOf3 rfl rfl (by omega)) rfl ?_; refine xv (v_ld rfl rfl isAgg3 (hc _ hc0)) rfl ?_; refine xa rfl rfl ?_; refine WO_nil (sq_n (hK9 _ _ ?_)); refine W_seq fun K10 hK10 => ?_; refine W_seq fun K11 hK11 => ?_; refine W_region ?_; refine xm rfl rfl ?_; refine xp (n_gt rfl rfl rfl) rfl ?_; refine WO_nil (sq_n (hK11 _ _ ?_)); refine W_cond rfl (fun hc1 => ?_) (fun hc1 => ?_)
    · replace hc1 := of_decide_eq_true hc1; refine W_seq fun K12 hK12 => ?_; refine W_region ?_; refine xm rfl rfl ?_; refine xm rfl rfl ?_; refine xp (n_sub rfl rfl rfl kI (by omega) (by omega)) rfl ?_; refine xp (n_shl rfl rfl rfl kI (by show _ ≤ 64; omega) (by rw [Nat.one_mul]; omega)) rfl ?_; refine xp (n_add rfl rfl rfl kI (by rw [Nat.one_mul]; omega)) rfl ?_; refine xa rfl rfl ?_; refine WO_nil (sq_n (hK12 _ _ ?_)); refine W_region ?_; refine xm rfl rfl ?_; refine xp (n_add rfl rfl rfl kI (by omega)) rfl ?_; refine xa rfl rfl ?_; refine WO_nil (sq_n (hK10 _ _ ?_)); refine W_seq fun K13 hK13 => ?_; refine W_region ?_; refine xm rfl rfl ?_; refine xp (n_eq rfl rfl rfl) rfl ?_; refine WO_nil (sq_n (hK13 _ _ ?_)); refine W_cond rfl (fun hc2 => ?_) (fun hc2 => ?_)
      · replace hc2 := of_decide_eq_true hc2; refine W_region ?_; refine xm rfl rfl ?_; refine xp (n_add rfl rfl rfl kI (by omega)) rfl ?_; refine xa rfl rfl ?_; refine WO_nil (bl_n (sq_n (hK8 _ _ ?_))); refine W_region ?_; refine xp (n_add rfl rfl rfl kI (by omega)) rfl ?_; refine xm rfl rfl ?_; refine WO_nil (sq_n (?_)); refine ⟨_, by omega, k + 1, by omega, rfl, ⟨rfl, rfl, ?_, ?_, ?_, rfl, rfl, rfl, trivial⟩, rfl⟩
        · simp only [ksum, hg, hc1, if_true, Nat.one_mul]; try rfl
        · simp only [kmany, hg, hc1, if_true]; try rfl
        · simp only [kones, hg, hc2, if_true]; try rfl
      · replace hc2 := of_decide_eq_false hc2; refine W_skip (bl_n (sq_n (hK8 _ _ ?_))); refine W_region ?_; refine xp (n_add rfl rfl rfl kI (by omega)) rfl ?_; refine xm rfl rfl ?_; refine WO_nil (sq_n (?_)); refine ⟨_, by omega, k + 1, by omega, rfl, ⟨rfl, rfl, ?_, ?_, ?_, rfl, rfl, rfl, trivial⟩, rfl⟩
        · simp only [ksum, hg, hc1, if_true, Nat.one_mul]; try rfl
        · simp only [kmany, hg, hc1, if_true]; try rfl
        · simp only [kones, hg, hc2, if_false]; try rfl
    · replace hc1 := of_decide_eq_false hc1; refine W_skip (sq_n (hK10 _ _ ?_)); refine W_seq fun K14 hK14 => ?_; refine W_region ?_; refine xm rfl rfl ?_; refine xp (n_eq rfl rfl rfl) rfl ?_; refine WO_nil (sq_n (hK14 _ _ ?_)); refine W_cond rfl (fun hc2 => ?_) (fun hc2 => ?_)
      · replace hc2 := of_decide_eq_true hc2; refine W_region ?_; refine xm rfl rfl ?_; refine xp (n_add rfl rfl rfl kI (by omega)) rfl ?_; refine xa rfl rfl ?_; refine WO_nil (bl_n (sq_n (hK8 _ _ ?_))); refine W_region ?_; refine xp (n_add rfl rfl rfl kI (by omega)) rfl ?_; refine xm rfl rfl ?_; refine WO_nil (sq_n (?_)); refine ⟨_, by omega, k + 1, by omega, rfl, ⟨rfl, rfl, ?_, ?_, ?_, rfl, rfl, rfl, trivial⟩, rfl⟩
        · simp only [ksum, hg, hc1, if_false]; try rfl
        · simp only [kmany, hg, hc1, if_false]; try rfl
        · simp only [kones, hg, hc2, if_true]; try rfl
      · replace hc2 := of_decide_eq_false hc2; refine W_skip (bl_n (sq_n (hK8 _ _ ?_))); refine W_region ?_; refine xp (n_add rfl rfl rfl kI (by omega)) rfl ?_; refine xm rfl rfl ?_; refine WO_nil (sq_n (?_)); refine ⟨_, by omega, k + 1, by omega, rfl, ⟨rfl, rfl, ?_, ?_, ?_, rfl, rfl, rfl, trivial⟩, rfl⟩
        · simp only [ksum, hg, hc1, if_false]; try rfl
        · simp only [kmany, hg, hc1, if_false]; try rfl
        · simp only [kones, hg, hc2, if_false]; try rfl
  · replace hc0 := of_decide_eq_false hc0; refine W_exit (sq_x (sq_x (bl_x (sq_n (hK4 _ _ ?_))))); refine W.keep [0,4,5,6,7] rfl ?_; refine W_seq fun K15 hK15 => ?_; refine W_seq fun K16 hK16 => ?_; obtain rfl : k = L.length := by omega
    refine W_region ?_; refine xm rfl rfl ?_; refine wc (e_c rfl rfl rfl call44) rfl rfl rfl (codes_spec hd hL) (by repeat (first | exact HSub.nil | exact HSub.all | (apply HSub.cons; (repeat (first | exact AtR.here | apply AtR.there | apply AtR.app))) | apply HSub.skip | exact HSub.behind | apply HSub.app)) ?_; rintro _ _ ⟨b3, rfl, rfl⟩; (try simp only [ap4]); refine xp (v_len rfl underlying23 rfl) rfl ?_; refine xm rfl rfl ?_; refine WO_nil (sq_n (hK16 _ _ ?_)); refine W_block ?_
    refine W_loop (fun m E H => ∃ k, k ≤ L.length ∧ m = L.length - k ∧ Sub E [(0, .slice p L.length cap), (4, .map (some b)), (5, iV (ksum L L.length)), (6, iV (kmany L L.length)), (7, iV (kones L L.length)), (34, .slice (some ⟨b3, 0, none⟩) L.length L.length), (35, iV L.length), (36, iV k)] ∧ H = (b, mapO (ents L k)) :: (b3, .cells (List.toArray ((codesL L).map iV)) 3 (0, 0)) :: D) (m := _) (⟨0, by omega, rfl, ⟨rfl, rfl, rfl, rfl, rfl, rfl, rfl, rfl, trivial⟩, rfl⟩) ?_; rintro m E H ⟨k, hk, rfl, hE, rfl⟩; refine W.env hE ?_; refine W_seq fun K17 hK17 => ?_; refine W_region ?_; refine xp (n_lt rfl rfl rfl) rfl ?_; refine WO_nil (sq_n (hK17 _ _ ?_)); refine W_seq fun K18 hK18 => ?_; refine W_cond rfl (fun hc3 => ?_) (fun hc3 => ?_)
    · replace hc3 := of_decide_eq_true hc3; refine W_skip (sq_n (hK18 _ _ ?_)); refine W_seq fun K19 hK19 => ?_; refine W_block ?_; refine W_seq fun K20 hK20 => ?_; have hne : L ≠ [] := by intro e; subst e; exact absurd hc3 (by simp)
      obtain ⟨b2, off, c, ty, fz, r, rfl, hat, hc⟩ := hd hne; have hg : L.getD k 0 = L[k] := by simp [hc3]
      have hx15 := h15 _ (List.getElem_mem hc3); refine W_region ?_; refine xm rfl rfl ?_; refine xp (v_ixs rfl underlying23 sizeOf3 rfl rfl (by omega)) rfl ?_; refine xv (v_ld rfl rfl isAgg3 (v := iV (codeOf L k)) (by simp [codesL, hc3])) rfl ?_; refine xa rfl rfl ?_; refine xa rfl rfl ?_; refine WO_nil (sq_n (hK20 _ _ ?_)); refine W_seq fun K21 hK21 => ?_; refine W_region ?_; refine xm rfl rfl ?_; refine xm rfl rfl ?_; refine xp (v_ixs rfl underlying23 sizeOf3 rfl rfl (by omega)) rfl ?_; refine xv (v_ld rfl rfl isAgg3 (hc _ hc3)) rfl ?_; refine xp (n_gt rfl rfl rfl) rfl ?_; refine WO_nil (sq_n (hK21 _ _ ?_)); refine W_cond rfl (fun hc4 => ?_) (fun hc4 => ?_)
      · replace hc4 := of_decide_eq_true hc4; refine W_region ?_; refine xm rfl rfl ?_; refine xm rfl rfl ?_; refine xm rfl rfl ?_; refine xp (v_ixs rfl underlying23 sizeOf3 rfl rfl (by omega)) rfl ?_; refine xv (v_ld rfl rfl isAgg3 (hc _ hc3)) rfl ?_; refine xm rfl rfl ?_; refine xp (v_pair rfl underlying129 sizeOf3 zeroValue129 rfl rfl) rfl ?_; refine xm rfl rfl ?_; refine wsn (v_mu rfl underlying93 underlying129 underlying3 sizeOf3 rfl rfl rfl (by rw [← hg]; exact lkup_new (by rw [hg]; exact hc4) (by rw [hg]; exact hx15))) rfl rfl ?_; rintro _ _ ⟨rfl, rfl⟩; refine WO_nil (bl_n (sq_n (hK19 _ _ ?_))); refine W_region ?_; refine xp (n_add rfl rfl rfl kI (by omega)) rfl ?_; refine xm rfl rfl ?_; refine WO_nil (sq_n (?_)); refine ⟨_, by omega, k + 1, by omega, rfl, ⟨rfl, rfl, rfl, rfl, rfl, rfl, rfl, rfl, trivial⟩, ?_⟩; simp only [ents, hg, hc4, if_true]; try rfl
      · replace hc4 := of_decide_eq_false hc4; refine W_skip (bl_n (sq_n (hK19 _ _ ?_))); refine W_region ?_; refine xp (n_add rfl rfl rfl kI (by omega)) rfl ?_; refine xm rfl rfl ?_; refine WO_nil (sq_n (?_)); refine ⟨_, by omega, k + 1, by omega, rfl, ⟨rfl, rfl, rfl, rfl, rfl, rfl, rfl, rfl, trivial⟩, ?_⟩; simp only [ents, hg, hc4, if_false]; try rfl
    · replace hc3 := of_decide_eq_false hc3; refine W_exit (sq_x (sq_x (bl_x (sq_n (hK15 _ _ ?_))))); refine W.keep [4,5,6,7] rfl ?_; refine W_seq fun K22 hK22 => ?_; obtain rfl : k = L.length := by omega
      refine W.drop (H' := (b, mapO (ents L L.length)) :: D) (.cons .here (.skip .all)) ?_; by_cases h1 : ksum L L.length = 32768
      · refine W_region ?_; refine xm rfl rfl ?_; refine xm rfl rfl ?_; refine xp (v_eq rfl rfl rfl (dT (by omega))) rfl ?_; refine xm rfl rfl ?_; refine xno rfl ?_; refine xno rfl ?_; refine xp (v_pt rfl rfl rfl) rfl ?_; refine xm rfl rfl ?_; refine xno rfl ?_; refine xno rfl ?_; refine xno rfl ?_; refine xno rfl ?_; refine xno rfl ?_; refine xno rfl ?_; refine xp (v_pt rfl rfl rfl) rfl ?_; refine xa rfl rfl ?_; refine xa rfl rfl ?_; refine WO_nil (sq_n (hK22 _ _ ?_)); refine W.keep [2,3] rfl ?_; refine W_ret (ret_of (v := _) rfl ?_); exact ⟨b, by simp [okCode, h1], rfl⟩
      · by_cases h2 : kmany L L.length = 0
        · refine W_region ?_; refine xm rfl rfl ?_; refine xm rfl rfl ?_; refine xp (v_eq rfl rfl rfl (dF (by omega))) rfl ?_; refine xm rfl rfl ?_; refine xm rfl rfl ?_; refine xp (v_eq rfl rfl rfl (dT (by omega))) rfl ?_; refine xp (v_pf rfl rfl rfl) rfl ?_; refine xm rfl rfl ?_; refine xno rfl ?_; refine xno rfl ?_; refine xno rfl ?_; refine xno rfl ?_; refine xno rfl ?_; refine xno rfl ?_; refine xp (v_pt rfl rfl rfl) rfl ?_; refine xa rfl rfl ?_; refine xa rfl rfl ?_; refine WO_nil (sq_n (hK22 _ _ ?_)); refine W.keep [2,3] rfl ?_; refine W_ret (ret_of (v := _) rfl ?_); exact ⟨b, by simp [okCode, h2], rfl⟩
        · by_cases h3 : kmany L L.length = 1
          · refine W_region ?_; refine xm rfl rfl ?_; refine xm rfl rfl ?_; refine xp (v_eq rfl rfl rfl (dF (by omega))) rfl ?_; refine xm rfl rfl ?_; refine xm rfl rfl ?_; refine xp (v_eq rfl rfl rfl (dF (by omega))) rfl ?_; refine xp (v_pf rfl rfl rfl) rfl ?_; refine xm rfl rfl ?_; refine xm rfl rfl ?_; refine xp (v_eq rfl rfl rfl (dT (by omega))) rfl ?_; refine xm rfl rfl ?_; refine xm rfl rfl ?_; refine xp (n_eq rfl rfl rfl) rfl ?_; refine xp (v_pt rfl rfl rfl) rfl ?_; refine xp (v_pf rfl rfl rfl) rfl ?_; refine xa rfl rfl ?_; refine xa rfl rfl ?_; refine WO_nil (sq_n (hK22 _ _ ?_)); refine W.keep [2,3] rfl ?_; refine W_ret (ret_of (v := _) rfl ?_); exact ⟨b, by simp [okCode, h1, h3], rfl⟩
          · refine W_region ?_; refine xm rfl rfl ?_; refine xm rfl rfl ?_; refine xp (v_eq rfl rfl rfl (dF (by omega))) rfl ?_; refine xm rfl rfl ?_; refine xm rfl rfl ?_; refine xp (v_eq rfl rfl rfl (dF (by omega))) rfl ?_; refine xp (v_pf rfl rfl rfl) rfl ?_; refine xm rfl rfl ?_; refine xm rfl rfl ?_; refine xp (v_eq rfl rfl rfl (dF (by omega))) rfl ?_; refine xm rfl rfl ?_; refine xno rfl ?_; refine xno rfl ?_; refine xp (v_pf rfl rfl rfl) rfl ?_; refine xp (v_pf rfl rfl rfl) rfl ?_; refine xa rfl rfl ?_; refine xa rfl rfl ?_; refine WO_nil (sq_n (hK22 _ _ ?_)); refine W.keep [2,3] rfl ?_; refine W_ret (ret_of (v := _) rfl ?_); exact ⟨b, by simp [okCode, h1, h2, h3], rfl⟩

theorem symbol_spec {l : Ents} {cb : Nat} {r : Obj → Hl} (s : RS) (hm : AtH D cb (mapO l) r) (hd : Dat p B D) (hB : ∀ x ∈ B, x < 256) (hl : B.length < 2 ^ 59) (hs : s.at_ ≤ 8 * B.length) :
    CallsL Tryz.prog 40 #[.pointer (some ⟨rb, 0, none⟩), .map (some cb)] ((rb, rdO (.slice p B.length cap) s.at_ s.fail) :: D) fun u H' =>
      u = .int .i64 ((sym B l s).1 : Nat) ∧ H' = (rb, rdO (.slice p B.length cap) (sym B l s).2.at_ (sym B l s).2.fail) :: D := by
  refine CallsL_of func40 rfl ntmps40 rfl ?_
  try dsimp only [initE, Nat.zero_add]
  refine W_seq fun K1 hK1 => ?_; refine W_region ?_; refine xa rfl rfl ?_; refine WO_nil (sq_n (hK1 _ _ ?_)); refine W_seq fun K2 hK2 => ?_; refine W_region ?_; refine xa rfl rfl ?_; refine WO_nil (sq_n (hK2 _ _ ?_)); refine W_seq fun K3 hK3 => ?_; refine W_seq fun K4 hK4 => ?_; refine W_region ?_; refine xa rfl rfl ?_; refine WO_nil (sq_n (hK4 _ _ ?_)); refine W_block ?_; refine W_loop (fun m E H => ∃ long n s', 1 ≤ long ∧ long ≤ 16 ∧ m = 16 - long ∧ n < 2 ^ (long - 1) ∧ s'.at_ ≤ 8 * B.length ∧ sym B l s = symF B l (16 - long) long n s' ∧ Sub E [(0, .pointer (some ⟨rb, 0, none⟩)), (1, .map (some cb)), (5, iV n), (6, iV long)] ∧ H = (rb, rdO (.slice p B.length cap) s'.at_ s'.fail) :: D) (m := _) (⟨1, 0, s, by omega, by omega, rfl, by decide, hs, rfl, ⟨rfl, rfl, rfl, rfl, trivial⟩, rfl⟩) ?_; rintro m E H ⟨long, n, s', hl1, hl2, rfl, hn, hs', hsym, hE, rfl⟩; refine W.env hE ?_
  refine W_seq fun K5 hK5 => ?_; refine W_seq fun K6 hK6 => ?_; refine W_region ?_; refine xm rfl rfl ?_; refine xp (n_le rfl rfl rfl) rfl ?_; refine WO_nil (sq_n (hK6 _ _ ?_)); refine W_cond rfl (fun hc0 => ?_) (fun hc0 => ?_)
  · replace hc0 := of_decide_eq_true hc0; refine W_skip (sq_n (hK5 _ _ ?_)); refine W_seq fun K7 hK7 => ?_; refine W_block ?_; refine W_seq fun K8 hK8 => ?_; have h15 : n < 2 ^ 15 := Nat.lt_of_lt_of_le hn (Nat.pow_le_pow_right (by decide) (by omega)); have hbt := rbit_lt B s'; have hnx : 2 * n + (rbit B s').1 < 2 ^ (long + 1 - 1) := by
      have : 2 ^ (long + 1 - 1) = 2 * 2 ^ (long - 1) := by rw [← Nat.pow_succ']; congr 1; omega
      omega
    have hst : 16 - long = (16 - (long + 1)) + 1 := by omega
    rw [hst] at hsym; simp only [symF] at hsym; refine W_region ?_; refine xm rfl rfl ?_; refine xp (n_mul rfl rfl rfl kI (by omega)) rfl ?_; refine xm rfl rfl ?_; refine wc (e_c rfl rfl rfl call23) rfl rfl rfl (bit_s (cap := cap) s' hd hB hl hs') (by repeat (first | exact HSub.nil | exact HSub.all | (apply HSub.cons; (repeat (first | exact AtR.here | apply AtR.there | apply AtR.app))) | apply HSub.skip | exact HSub.behind | apply HSub.app)) ?_; rintro _ _ ⟨rfl, rfl⟩; (try simp only [ap4]); refine xp (n_add rfl rfl rfl kI (by omega)) rfl ?_; refine xa rfl rfl ?_; refine WO_nil (sq_n (hK8 _ _ ?_)); refine W_seq fun K9 hK9 => ?_; refine W_region ?_; refine xm rfl rfl ?_; refine xm rfl rfl ?_; refine xm rfl rfl ?_; refine xp (v_pair rfl underlying129 sizeOf3 zeroValue129 rfl rfl) rfl ?_; refine xv (v_lk rfl underlying93 underlying129 underlying3 sizeOf3 zeroValue3 rfl rfl) rfl ?_
    refine xm rfl rfl ?_; refine xp (v_ex rfl rfl rfl) rfl ?_; refine xp (v_ex rfl rfl rfl) rfl ?_; refine xa rfl rfl ?_; refine xa rfl rfl ?_; refine WO_nil (sq_n (hK9 _ _ ?_)); refine W_seq fun K10 hK10 => ?_; rcases hlk : lkup l long (2 * n + (rbit B s').1) with _ | y
    · have hsx : sym B l s = symF B l (16 - (long + 1)) (long + 1) (2 * n + (rbit B s').1) (rbit B s').2 := by rw [hsym, hlk]
      refine W_region ?_; refine xm rfl rfl ?_; refine xm rfl rfl ?_; refine xno rfl ?_; refine xno rfl ?_; refine xno rfl ?_; refine xno rfl ?_; refine xno rfl ?_; refine xp (v_pf rfl rfl rfl) rfl ?_; refine WO_nil (sq_n (hK10 _ _ ?_)); refine W_cond_f rfl ?_; refine W_skip (bl_n (sq_n (hK7 _ _ ?_))); refine W_region ?_; refine xm rfl rfl ?_; refine xp (n_add rfl rfl rfl kI (by omega)) rfl ?_; refine xa rfl rfl ?_; refine WO_nil (sq_n (?_)); refine ⟨_, by omega, long + 1, 2 * n + (rbit B s').1, (rbit B s').2, by omega, by omega, rfl, hnx, rbit_le hs', hsx, ⟨rfl, rfl, rfl, rfl, trivial⟩, (by first | rfl | rw [hf])⟩
    · rcases hf : (rbit B s').2.fail with _ | _
      · have hsx : sym B l s = (y, (rbit B s').2) := by rw [hsym, hlk]; simp [hf]
        refine W_region ?_; refine xm rfl rfl ?_; refine xm rfl rfl ?_; refine xm rfl rfl ?_; refine xn rfl rfl ?_; refine xp (v_fa (q := 2) rfl underlying58 rfl rfl sizeOf4 rfl) rfl ?_; refine xv (ld rfl rfl isAgg4) rfl ?_; refine xp (v_not rfl rfl rfl) rfl ?_; refine xp (v_pt rfl rfl rfl) rfl ?_; refine WO_nil (sq_n (hK10 _ _ ?_)); refine W_cond_t rfl ?_; refine W_seq fun K11 hK11 => ?_; refine W_region ?_; refine xm rfl rfl ?_; refine xa rfl rfl ?_; refine WO_nil (sq_n (hK11 _ _ ?_)); refine W_ret (bl_r (sq_r (sq_r (bl_r (sq_r (ret_of (v := _) rfl ?_)))))); rw [hsx, hf]; exact ⟨rfl, rfl⟩
      · have hsx : sym B l s = symF B l (16 - (long + 1)) (long + 1) (2 * n + (rbit B s').1) (rbit B s').2 := by rw [hsym, hlk]; simp [hf]
        refine W_region ?_; refine xm rfl rfl ?_; refine xm rfl rfl ?_; refine xm rfl rfl ?_; refine xn rfl rfl ?_; refine xp (v_fa (q := 2) rfl underlying58 rfl rfl sizeOf4 rfl) rfl ?_; refine xv (ld rfl rfl isAgg4) rfl ?_; refine xp (v_not rfl rfl rfl) rfl ?_; refine xp (v_pt rfl rfl rfl) rfl ?_; refine WO_nil (sq_n (hK10 _ _ ?_)); refine W_cond_f rfl ?_; refine W_skip (bl_n (sq_n (hK7 _ _ ?_))); refine W_region ?_; refine xm rfl rfl ?_; refine xp (n_add rfl rfl rfl kI (by omega)) rfl ?_; refine xa rfl rfl ?_; refine WO_nil (sq_n (?_)); refine ⟨_, by omega, long + 1, 2 * n + (rbit B s').1, (rbit B s').2, by omega, by omega, rfl, hnx, rbit_le hs', hsx, ⟨rfl, rfl, rfl, rfl, trivial⟩, (by first | rfl | rw [hf])⟩
  · replace hc0 := of_decide_eq_false hc0; refine W_exit (sq_x (sq_x (bl_x (sq_n (hK3 _ _ ?_))))); refine W.keep [0] rfl ?_; refine W_seq fun K12 hK12 => ?_; refine W_region ?_; refine xm rfl rfl ?_; refine xn rfl rfl ?_; refine xp (v_fa (q := 2) rfl underlying58 rfl rfl sizeOf4 rfl) rfl ?_; refine wst rfl rfl rfl sizeOf4 rfl rfl rfl ?_; refine WO_nil (sq_n (hK12 _ _ ?_)); refine W.keep [] rfl ?_; refine W_seq fun K13 hK13 => ?_; refine W_region ?_; refine xa rfl rfl ?_; refine WO_nil (sq_n (hK13 _ _ ?_)); refine W_ret (ret_of (v := _) rfl ?_); have : long = 16 := by omega
    subst this; rw [hsym]; exact ⟨rfl, rfl⟩

theorem newCode_m {m : Nat} (hm : L.length = m) (hd : DatI p L D) (hL : L.length ≤ 320) (h15 : ∀ x ∈ L, x ≤ 15) :
    CallsL Tryz.prog 39 #[.slice p m cap] D fun v H' => ∃ b, v = .tuple #[.map (some b), .bool (okCode L)] ∧ H' = (b, mapO (ents L m)) :: D := by
  subst hm; exact newCode_spec hd hL h15

theorem order_spec : CallsL Tryz.prog 43 #[] D fun v H' => ∃ b, v = .slice (some ⟨b, 0, none⟩) 19 19 ∧ H' = (b, .cells (List.toArray (orderL.map iV)) 3 (0, 0)) :: D := by
  refine CallsL_of func43 rfl ntmps43 rfl ?_
  try dsimp only [initE, Nat.zero_add]
  refine W_seq fun K1 hK1 => ?_; refine W_region ?_; refine xa rfl rfl ?_; refine WO_nil (sq_n (hK1 _ _ ?_)); refine W_seq fun K2 hK2 => ?_; refine W_region ?_; refine ws (v_bs (List.toArray (orderL.map iV)) 3 19 rfl rfl (by intro w; kernel_rfl)) rfl rfl rfl ?_; rintro _ _ ⟨b, rfl, rfl, _⟩; refine xa rfl rfl ?_; refine WO_nil (sq_n (hK2 _ _ ?_)); refine W_ret (ret_of (v := _) rfl ?_); exact ⟨b, rfl, rfl⟩
end
end Go.Proofs.YtpbahgddoamhgaaGreatDoor
namespace Go.Proofs.YtpbahgddoamhgaaGreatDoor
open Go.Proofs.Tryz
open Go Sx Pu
set_option maxRecDepth 10000

section
variable {p : Option Addr} {cap rb : Nat} {L B : List Nat} {D : Hl}

theorem fixed_spec : CallsL Tryz.prog 26 #[] [] fun v H' => ∃ p1 c1 p2 c2, v = .tuple #[.slice p1 288 c1, .slice p2 32 c2] ∧ DatI p1 fixL H' ∧ DatI p2 fixD H' := by
  refine CallsL_of func26 rfl ntmps26 rfl ?_
  try dsimp only [initE, Nat.zero_add]
  refine W_seq fun K1 hK1 => ?_; refine W_region ?_; refine xa rfl rfl ?_; refine xa rfl rfl ?_; refine WO_nil (sq_n (hK1 _ _ ?_)); refine W_seq fun K2 hK2 => ?_; refine W_seq fun K3 hK3 => ?_; refine W_region ?_; refine xm rfl rfl ?_; refine WO_nil (sq_n (hK3 _ _ ?_)); refine W_block ?_; refine W_loop (fun m E H => ∃ k p cap L Hs, k ≤ 288 ∧ m = 288 - k ∧ L = (List.range k).map fixf ∧ L.length = k ∧ OwnV iV 3 p cap L Hs ∧ Sub E [(0, .slice p L.length cap), (1, .slice none 0 0), (3, iV k)] ∧ H = Hs ++ []) (m := _) (⟨0, none, 0, [], [], by omega, rfl, rfl, rfl, OwnV.nil, ⟨rfl, rfl, rfl, trivial⟩, rfl⟩) ?_; rintro m E H ⟨k, p, cap, L, Hs, hk, rfl, hL, hLl, hO, hE, rfl⟩; refine W.env hE ?_; refine W_seq fun K4 hK4 => ?_; refine W_region ?_; refine xp (n_lt rfl rfl rfl) rfl ?_; refine WO_nil (sq_n (hK4 _ _ ?_)); refine W_seq fun K5 hK5 => ?_; refine W_cond rfl (fun hc0 => ?_) (fun hc0 => ?_)
  · replace hc0 := of_decide_eq_true hc0; refine W_skip (sq_n (hK5 _ _ ?_)); refine W_seq fun K6 hK6 => ?_; refine W_block ?_; refine W_seq fun K7 hK7 => ?_; refine W_region ?_; refine xm rfl rfl ?_; refine xa rfl rfl ?_; refine WO_nil (sq_n (hK7 _ _ ?_)); refine W_block ?_; refine W_seq fun K8 hK8 => ?_; refine W_region ?_; refine xm rfl rfl ?_; refine xp (n_lt rfl rfl rfl) rfl ?_; refine xa rfl rfl ?_; refine WO_nil (sq_n (hK8 _ _ ?_)); refine W_cond rfl (fun hc1 => ?_) (fun hc1 => ?_)
    · replace hc1 := of_decide_eq_true hc1; refine W_region ?_; refine xm rfl rfl ?_; refine wapp1 (bytes := 8) underlying23 sizeOf3 typeInfo3 rfl zeroValue3 rfl hO rfl (fun _ => rfl) (by omega) (by decide) rfl rfl (c := 8) rfl rfl rfl rfl rfl rfl rfl (fun _ => rfl) (fun _ => rfl) ?_; intro vb p2 cap2 Hs2 hO2; refine xa rfl rfl ?_; refine WO_nil (bl_n (bl_n (sq_n (hK6 _ _ ?_)))); refine W_region ?_; refine xp (n_add rfl rfl rfl kI (by omega)) rfl ?_; refine xm rfl rfl ?_; refine WO_nil (sq_n (?_)); exact ⟨_, by omega, k + 1, _, _, _, _, by omega, rfl, by rw [List.range_succ, List.map_append, ← hL]; simp [fixf, *], by simp [hLl], hO2, ⟨rfl, rfl, rfl, trivial⟩, rfl⟩
    · replace hc1 := of_decide_eq_false hc1; refine W_seq fun K9 hK9 => ?_; refine W_region ?_; refine xm rfl rfl ?_; refine xp (n_lt rfl rfl rfl) rfl ?_; refine xa rfl rfl ?_; refine WO_nil (sq_n (hK9 _ _ ?_)); refine W_cond rfl (fun hc2 => ?_) (fun hc2 => ?_)
      · replace hc2 := of_decide_eq_true hc2; refine W_region ?_; refine xm rfl rfl ?_; refine wapp1 (bytes := 8) underlying23 sizeOf3 typeInfo3 rfl zeroValue3 rfl hO rfl (fun _ => rfl) (by omega) (by decide) rfl rfl (c := 9) rfl rfl rfl rfl rfl rfl rfl (fun _ => rfl) (fun _ => rfl) ?_; intro vb p2 cap2 Hs2 hO2; refine xa rfl rfl ?_; refine WO_nil (bl_n (bl_n (sq_n (hK6 _ _ ?_)))); refine W_region ?_; refine xp (n_add rfl rfl rfl kI (by omega)) rfl ?_; refine xm rfl rfl ?_; refine WO_nil (sq_n (?_)); exact ⟨_, by omega, k + 1, _, _, _, _, by omega, rfl, by rw [List.range_succ, List.map_append, ← hL]; simp [fixf, *], by simp [hLl], hO2, ⟨rfl, rfl, rfl, trivial⟩, rfl⟩
      · replace hc2 := of_decide_eq_false hc2; refine W_seq fun K10 hK10 => ?_; refine W_region ?_; refine xm rfl rfl ?_; refine xp (n_lt rfl rfl rfl) rfl ?_; refine xa rfl rfl ?_; refine WO_nil (sq_n (hK10 _ _ ?_)); refine W_cond rfl (fun hc3 => ?_) (fun hc3 => ?_)
        · replace hc3 := of_decide_eq_true hc3; refine W_region ?_; refine xm rfl rfl ?_; refine wapp1 (bytes := 8) underlying23 sizeOf3 typeInfo3 rfl zeroValue3 rfl hO rfl (fun _ => rfl) (by omega) (by decide) rfl rfl (c := 7) rfl rfl rfl rfl rfl rfl rfl (fun _ => rfl) (fun _ => rfl) ?_; intro vb p2 cap2 Hs2 hO2; refine xa rfl rfl ?_; refine WO_nil (bl_n (bl_n (sq_n (hK6 _ _ ?_)))); refine W_region ?_; refine xp (n_add rfl rfl rfl kI (by omega)) rfl ?_; refine xm rfl rfl ?_; refine WO_nil (sq_n (?_)); exact ⟨_, by omega, k + 1, _, _, _, _, by omega, rfl, by rw [List.range_succ, List.map_append, ← hL]; simp [fixf, *], by simp [hLl], hO2, ⟨rfl, rfl, rfl, trivial⟩, rfl⟩
        · replace hc3 := of_decide_eq_false hc3; refine W_region ?_; refine xm rfl rfl ?_; refine wapp1 (bytes := 8) underlying23 sizeOf3 typeInfo3 rfl zeroValue3 rfl hO rfl (fun _ => rfl) (by omega) (by decide) rfl rfl (c := 8) rfl rfl rfl rfl rfl rfl rfl (fun _ => rfl) (fun _ => rfl) ?_; intro vb p2 cap2 Hs2 hO2; refine xa rfl rfl ?_; refine WO_nil (bl_n (bl_n (sq_n (hK6 _ _ ?_)))); refine W_region ?_; refine xp (n_add rfl rfl rfl kI (by omega)) rfl ?_; refine xm rfl rfl ?_; refine WO_nil (sq_n (?_)); exact ⟨_, by omega, k + 1, _, _, _, _, by omega, rfl, by rw [List.range_succ, List.map_append, ← hL]; simp [fixf, *], by simp [hLl], hO2, ⟨rfl, rfl, rfl, trivial⟩, rfl⟩
  · replace hc0 := of_decide_eq_false hc0; refine W_exit (sq_x (sq_x (bl_x (sq_n (hK2 _ _ ?_))))); refine W_seq fun K11 hK11 => ?_; refine W_seq fun K12 hK12 => ?_; refine W_region ?_; refine xm rfl rfl ?_; refine WO_nil (sq_n (hK12 _ _ ?_)); refine W_block ?_; refine W_loop (fun m E H => ∃ j q c M Hs2, j ≤ 32 ∧ m = 32 - j ∧ M = List.replicate j 5 ∧ M.length = j ∧ OwnV iV 3 q c M Hs2 ∧ Sub E [(0, .slice p L.length cap), (1, .slice q M.length c), (28, iV j)] ∧ H = Hs2 ++ (Hs ++ [])) (m := _) (⟨0, none, 0, [], [], by omega, rfl, rfl, rfl, OwnV.nil, ⟨rfl, rfl, rfl, trivial⟩, rfl⟩) ?_; rintro m E H ⟨j, q, c, M, Hs3, hj, rfl, hM, hMl, hO3, hE, rfl⟩; refine W.env hE ?_; refine W_seq fun K13 hK13 => ?_; refine W_region ?_; refine xp (n_lt rfl rfl rfl) rfl ?_; refine WO_nil (sq_n (hK13 _ _ ?_)); refine W_seq fun K14 hK14 => ?_; refine W_cond rfl (fun hc4 => ?_) (fun hc4 => ?_)
    · replace hc4 := of_decide_eq_true hc4; refine W_skip (sq_n (hK14 _ _ ?_)); refine W_seq fun K15 hK15 => ?_; refine W_block ?_; refine W_region ?_; refine xm rfl rfl ?_; refine wapp1 (bytes := 8) underlying23 sizeOf3 typeInfo3 rfl zeroValue3 rfl hO3 rfl (fun _ => rfl) (by omega) (by decide) rfl rfl (c := 5) rfl rfl rfl rfl rfl rfl rfl (fun _ => rfl) (fun _ => rfl) ?_; intro vb p2 cap2 Hs2 hO2; refine xa rfl rfl ?_; refine WO_nil (bl_n (sq_n (hK15 _ _ ?_))); refine W_region ?_; refine xp (n_add rfl rfl rfl kI (by omega)) rfl ?_; refine xm rfl rfl ?_; refine WO_nil (sq_n (?_)); exact ⟨_, by omega, j + 1, _, _, _, _, by omega, rfl, by rw [List.replicate_succ', ← hM], by simp [hMl], hO2, ⟨rfl, rfl, rfl, trivial⟩, rfl⟩
    · replace hc4 := of_decide_eq_false hc4; refine W_exit (sq_x (sq_x (bl_x (sq_n (hK11 _ _ ?_))))); refine W_seq fun K16 hK16 => ?_; refine W_region ?_; refine xm rfl rfl ?_; refine xm rfl rfl ?_; refine xa rfl rfl ?_; refine xa rfl rfl ?_; refine WO_nil (sq_n (hK16 _ _ ?_)); refine W.keep [0,1] rfl ?_; refine W_ret (ret_of (v := _) rfl ?_); obtain rfl : k = 288 := by omega
      obtain rfl : j = 32 := by omega
      have e1 : L = fixL := hL; have e2 : M = fixD := hM; subst e1 e2; exact ⟨p, cap, q, c, rfl, (hO.dat.appl _).app _, hO3.dat.appl _⟩

theorem stored_spec {po : Option Addr} {co : Nat} {out : List Nat} {Ho : Hl} (s : RS) (hcap : B.length ≤ cap) (hd : Dat p B D) (hB : ∀ x ∈ B, x < 256) (hl : B.length < 2 ^ 40) (hs : s.at_ ≤ 8 * B.length) (hO : OwnV bV 5 po co out Ho) (hol : out.length ≤ 139400000000000) :
    CallsL Tryz.prog 25 #[.pointer (some ⟨rb, 0, none⟩), .slice po out.length co] (Ho ++ (rb, rdO (.slice p B.length cap) s.at_ s.fail) :: D) fun v H' =>
      ∃ p' c' H1, v = .slice p' (rstored B out s).1.length c' ∧ OwnV bV 5 p' c' (rstored B out s).1 H1 ∧ H' = H1 ++ (rb, rdO (.slice p B.length cap) (rstored B out s).2.at_ (rstored B out s).2.fail) :: D := by
  have ha1 := ralign_le (B := B) hs; have ha2 := rbits_le (B := B) 16 ha1; have ha3 := rbits_le (B := B) 16 ha2; have hn := rbits_lt B 16 (ralign s); have hm := rbits_lt B 16 (rbits B 16 (ralign s)).2; refine CallsL_of func25 rfl ntmps25 rfl ?_
  try dsimp only [initE, Nat.zero_add]
  refine W_seq fun K1 hK1 => ?_; refine W_region ?_; refine xa rfl rfl ?_; refine WO_nil (sq_n (hK1 _ _ ?_)); refine W_seq fun K2 hK2 => ?_; refine W_region ?_; refine xm rfl rfl ?_; refine wc (e_c rfl rfl rfl call29) rfl rfl rfl (align_spec (D := D) (by omega)) HSub.behind ?_; rintro _ _ rfl; (try simp only [ap4]); refine WO_nil (sq_n (hK2 _ _ ?_)); refine W_seq fun K3 hK3 => ?_; refine W_region ?_; refine xm rfl rfl ?_; refine wc (e_c rfl rfl rfl call24) rfl rfl rfl (bits_spec (cap := cap) 16 (ralign s) hd hB (by omega) ha1 (by omega)) HSub.behind ?_; rintro _ _ ⟨rfl, rfl⟩; (try simp only [ap4]); refine xm rfl rfl ?_; refine wc (e_c rfl rfl rfl call24) rfl rfl rfl (bits_spec (cap := cap) 16 (rbits B 16 (ralign s)).2 hd hB (by omega) ha2 (by omega)) HSub.behind ?_; rintro _ _ ⟨rfl, rfl⟩; (try simp only [ap4]); refine xa rfl rfl ?_; refine xa rfl rfl ?_; refine WO_nil (sq_n (hK3 _ _ ?_))
  refine W.keep [0,1,4,5,6] rfl ?_; refine W_seq fun K4 hK4 => ?_; refine W_seq fun K5 hK5 => ?_; generalize hg1 : rbits B 16 (ralign s) = g1 at *; generalize hg2 : rbits B 16 g1.2 = g2 at *; obtain ⟨n, s2⟩ := g1; obtain ⟨m, a3, f3⟩ := g2; simp only at *; rcases f3 with _ | _
  · by_cases hx : n ^^^ m = 65535
    · refine W_draw mixed ?_; refine WA_k (fuel := 0) [0,1,2,3,4,5,6,7,8,9,10,11,12,13,14,15,16,17,18,19,20,21,22,23,24] rfl (by kernel_rfl) ?_; refine ym rfl rfl rfl ?_; refine yp rfl (v_nil rfl rfl) rfl ?_; refine yp rfl (v_fa (q := 2) rfl underlying58 rfl rfl sizeOf4 rfl) rfl ?_; refine yv rfl (ld rfl rfl isAgg4) rfl ?_; refine ym rfl rfl rfl ?_; refine ym rfl rfl rfl ?_; refine ym rfl rfl rfl ?_; refine yp rfl (n_xor rfl rfl rfl kI (by omega) (by omega)) rfl ?_; refine yp rfl (v_ne rfl rfl rfl (dF (by omega))) rfl ?_; refine yp rfl (v_pf rfl rfl rfl) rfl ?_; refine ym rfl rfl rfl ?_; refine ym rfl rfl rfl ?_; refine yp rfl (v_nil rfl rfl) rfl ?_; refine yp rfl (v_fa (q := 1) rfl underlying58 rfl rfl sizeOf3 rfl) rfl ?_; refine yv rfl (ld rfl rfl isAgg3) rfl ?_; refine yp rfl (n_quo rfl rfl rfl kI (by omega) (by omega)) rfl ?_; refine ym rfl rfl rfl ?_
      refine yp rfl (n_add rfl rfl rfl kI (by omega)) rfl ?_; refine ym rfl rfl rfl ?_; refine yp rfl (v_nil rfl rfl) rfl ?_; refine yp rfl (v_fa (q := 0) rfl underlying58 rfl rfl sizeOf22 rfl) rfl ?_; refine yv rfl (ld rfl rfl isAgg22) rfl ?_; refine yp rfl (v_len rfl underlying22 rfl) rfl ?_; refine yp rfl (n_gt rfl rfl rfl) rfl ?_; refine yp rfl (v_pf rfl rfl rfl) rfl ?_; refine WK_nil ?_; refine WA_nil (by kernel_rfl) (sq_n (hK5 _ _ ?_)); refine W.keep [0,1,4,5,37] rfl ?_; refine W_cond rfl (fun hc0 => ?_) (fun hc0 => ?_)
      · replace hc0 := of_decide_eq_true hc0; have hst : rstored B out s = (out, ⟨a3, true⟩) := by unfold rstored; rw [hg1]; simp only [hg2]; rw [if_pos (by omega)]; rfl
        refine W_seq fun K6 hK6 => ?_; refine W_region ?_; refine xm rfl rfl ?_; refine xn rfl rfl ?_; refine xp (v_fa (q := 2) rfl underlying58 rfl rfl sizeOf4 rfl) rfl ?_; refine wst rfl rfl rfl sizeOf4 rfl rfl rfl ?_; refine WO_nil (sq_n (hK6 _ _ ?_)); refine W.keep [0,1,4,5] rfl ?_; refine W_seq fun K7 hK7 => ?_; refine W_region ?_; refine xm rfl rfl ?_; refine xa rfl rfl ?_; refine WO_nil (sq_n (hK7 _ _ ?_)); refine W_ret (sq_r (ret_of (v := _) rfl ?_)); rw [hst]
        first | exact ⟨_, _, _, rfl, hO, rfl⟩ | exact ⟨_, _, _, rfl, hO2, rfl⟩
      · replace hc0 := of_decide_eq_false hc0; have hst : rstored B out s = (out ++ (B.take (a3 / 8 + n)).drop (a3 / 8), ⟨a3 + 8 * n, false⟩) := by unfold rstored; rw [hg1]; simp only [hg2]; rw [if_neg (by simp [hx]; omega)]
        refine W_skip (sq_n (hK4 _ _ ?_)); refine W_seq fun K8 hK8 => ?_; refine W_draw mixed ?_; refine WA_k (fuel := 2) [0,1,2,3,4,5,6,7,8,9,10,11,12,13,14,15,16,17] rfl (by kernel_rfl) ?_; refine ym rfl rfl rfl ?_; refine ym rfl rfl rfl ?_; refine yp rfl (v_nil rfl rfl) rfl ?_; refine yp rfl (v_fa (q := 0) rfl underlying58 rfl rfl sizeOf22 rfl) rfl ?_; refine yv rfl (ld rfl rfl isAgg22) rfl ?_; refine ym rfl rfl rfl ?_; refine yp rfl (v_nil rfl rfl) rfl ?_; refine yp rfl (v_fa (q := 1) rfl underlying58 rfl rfl sizeOf3 rfl) rfl ?_; refine yv rfl (ld rfl rfl isAgg3) rfl ?_; refine yp rfl (n_quo rfl rfl rfl kI (by omega) (by omega)) rfl ?_; refine ym rfl rfl rfl ?_; refine yp rfl (v_nil rfl rfl) rfl ?_; refine yp rfl (v_fa (q := 1) rfl underlying58 rfl rfl sizeOf3 rfl) rfl ?_; refine yv rfl (ld rfl rfl isAgg3) rfl ?_; refine yp rfl (n_quo rfl rfl rfl kI (by omega) (by omega)) rfl ?_
        refine ym rfl rfl rfl ?_; refine yp rfl (n_add rfl rfl rfl kI (by omega)) rfl ?_; refine yp rfl (v_slp rfl underlying22 sizeOf5 rfl .none (.some rfl) (.some rfl) (by omega) (by omega) (by omega) (by decide)) rfl ?_; refine WK_nil ?_; refine WA_one (k := 18) rfl (by kernel_rfl) ?_; refine wapp (bytes := 1) rfl underlying22 underlying22 sizeOf5 typeInfo5 rfl zeroValue5 rfl rfl rfl hO rfl (((hd.sub (l := a3 / 8) (u := a3 / 8 + n) (m := cap) (by omega) (by omega)).cons _).app _) (by simp; omega) (fun _ => rfl) (by simp; omega) (by simp; omega) rfl rfl rfl ?_; intro p2 c2 H2 hO2; refine WO_nil (sq_n ?_); refine WA_k (fuel := 0) [19] rfl (by kernel_rfl) ?_; refine yp rfl (v_as rfl rfl) rfl ?_; refine WK_nil ?_; refine WA_nil (by kernel_rfl) (sq_n (hK8 _ _ ?_)); refine W.keep [0,4,5,1] rfl ?_; refine W_seq fun K9 hK9 => ?_; refine W_region ?_; refine xm rfl rfl ?_; refine xn rfl rfl ?_
        refine xp (v_fa (q := 1) rfl underlying58 rfl rfl sizeOf3 rfl) rfl ?_; refine xv (ld rfl rfl isAgg3) rfl ?_; refine xm rfl rfl ?_; refine xp (n_mul rfl rfl rfl kI (by omega)) rfl ?_; refine xp (n_add rfl rfl rfl kI (by omega)) rfl ?_; refine xn rfl rfl ?_; refine xp (v_fa (q := 1) rfl underlying58 rfl rfl sizeOf3 rfl) rfl ?_; refine wst rfl rfl rfl sizeOf3 rfl rfl rfl ?_; refine WO_nil (sq_n (hK9 _ _ ?_)); refine W.keep [4,1] rfl ?_; refine W_seq fun K10 hK10 => ?_; refine W_region ?_; refine xm rfl rfl ?_; refine xa rfl rfl ?_; refine WO_nil (sq_n (hK10 _ _ ?_)); refine W_ret (ret_of (v := _) rfl ?_); rw [hst]
        first | exact ⟨_, _, _, rfl, hO, rfl⟩ | exact ⟨_, _, _, rfl, hO2, rfl⟩
    · have hst : rstored B out s = (out, ⟨a3, true⟩) := by unfold rstored; rw [hg1]; simp only [hg2]; rw [if_pos (by simp [hx])]; rfl
      refine W_draw mixed ?_; refine WA_k (fuel := 0) [0,1,2,3,4,5,6,7,8,9,10,11,12,13,14,15,16,17,18,19,20,21,22,23,24] rfl (by kernel_rfl) ?_; refine ym rfl rfl rfl ?_; refine yp rfl (v_nil rfl rfl) rfl ?_; refine yp rfl (v_fa (q := 2) rfl underlying58 rfl rfl sizeOf4 rfl) rfl ?_; refine yv rfl (ld rfl rfl isAgg4) rfl ?_; refine ym rfl rfl rfl ?_; refine ym rfl rfl rfl ?_; refine ym rfl rfl rfl ?_; refine yp rfl (n_xor rfl rfl rfl kI (by omega) (by omega)) rfl ?_; refine yp rfl (v_ne rfl rfl rfl (dT (by omega))) rfl ?_; refine yp rfl (v_pf rfl rfl rfl) rfl ?_; refine ym rfl rfl rfl ?_; refine yno rfl rfl ?_; refine yno rfl rfl ?_; refine yno rfl rfl ?_; refine yno rfl rfl ?_; refine yno rfl rfl ?_; refine yno rfl rfl ?_; refine yno rfl rfl ?_; refine yno rfl rfl ?_; refine yno rfl rfl ?_; refine yno rfl rfl ?_; refine yno rfl rfl ?_; refine yno rfl rfl ?_; refine yno rfl rfl ?_
      refine yp rfl (v_pt rfl rfl rfl) rfl ?_; refine WK_nil ?_; refine WA_nil (by kernel_rfl) (sq_n (hK5 _ _ ?_)); refine W.keep [0,1,4,5,37] rfl ?_; refine W_cond_t rfl ?_; refine W_seq fun K11 hK11 => ?_; refine W_region ?_; refine xm rfl rfl ?_; refine xn rfl rfl ?_; refine xp (v_fa (q := 2) rfl underlying58 rfl rfl sizeOf4 rfl) rfl ?_; refine wst rfl rfl rfl sizeOf4 rfl rfl rfl ?_; refine WO_nil (sq_n (hK11 _ _ ?_)); refine W.keep [0,1,4,5] rfl ?_; refine W_seq fun K12 hK12 => ?_; refine W_region ?_; refine xm rfl rfl ?_; refine xa rfl rfl ?_; refine WO_nil (sq_n (hK12 _ _ ?_)); refine W_ret (sq_r (ret_of (v := _) rfl ?_)); rw [hst]
      first | exact ⟨_, _, _, rfl, hO, rfl⟩ | exact ⟨_, _, _, rfl, hO2, rfl⟩
  · have hst : rstored B out s = (out, ⟨a3, true⟩) := by unfold rstored; rw [hg1]; simp only [hg2]; rw [if_pos (by simp)]; rfl
    refine W_draw mixed ?_; refine WA_k (fuel := 0) [0,1,2,3,4,5,6,7,8,9,10,11,12,13,14,15,16,17,18,19,20,21,22,23,24] rfl (by kernel_rfl) ?_; refine ym rfl rfl rfl ?_; refine yp rfl (v_nil rfl rfl) rfl ?_; refine yp rfl (v_fa (q := 2) rfl underlying58 rfl rfl sizeOf4 rfl) rfl ?_; refine yv rfl (ld rfl rfl isAgg4) rfl ?_; refine ym rfl rfl rfl ?_; refine yno rfl rfl ?_; refine yno rfl rfl ?_; refine yno rfl rfl ?_; refine yno rfl rfl ?_; refine yp rfl (v_pt rfl rfl rfl) rfl ?_; refine ym rfl rfl rfl ?_; refine yno rfl rfl ?_; refine yno rfl rfl ?_; refine yno rfl rfl ?_; refine yno rfl rfl ?_; refine yno rfl rfl ?_; refine yno rfl rfl ?_; refine yno rfl rfl ?_; refine yno rfl rfl ?_; refine yno rfl rfl ?_; refine yno rfl rfl ?_; refine yno rfl rfl ?_; refine yno rfl rfl ?_; refine yno rfl rfl ?_; refine yp rfl (v_pt rfl rfl rfl) rfl ?_; refine WK_nil ?_
    refine WA_nil (by kernel_rfl) (sq_n (hK5 _ _ ?_)); refine W.keep [0,1,4,5,37] rfl ?_; refine W_cond_t rfl ?_; refine W_seq fun K13 hK13 => ?_; refine W_region ?_; refine xm rfl rfl ?_; refine xn rfl rfl ?_; refine xp (v_fa (q := 2) rfl underlying58 rfl rfl sizeOf4 rfl) rfl ?_; refine wst rfl rfl rfl sizeOf4 rfl rfl rfl ?_; refine WO_nil (sq_n (hK13 _ _ ?_)); refine W.keep [0,1,4,5] rfl ?_; refine W_seq fun K14 hK14 => ?_; refine W_region ?_; refine xm rfl rfl ?_; refine xa rfl rfl ?_; refine WO_nil (sq_n (hK14 _ _ ?_)); refine W_ret (sq_r (ret_of (v := _) rfl ?_)); rw [hst]
    first | exact ⟨_, _, _, rfl, hO, rfl⟩ | exact ⟨_, _, _, rfl, hO2, rfl⟩
theorem adl_lt : ∀ (L : List Nat) (x : Nat × Nat), x.1 < 65521 → x.2 < 65521 → (adl L x).1 < 65521 ∧ (adl L x).2 < 65521
  | [], x, h1, h2 => ⟨h1, h2⟩
  | c :: L, x, h1, h2 => adl_lt L _ (Nat.mod_lt _ (by decide)) (Nat.mod_lt _ (by decide))
theorem adl_snoc : ∀ (L : List Nat) (c : Nat) (x : Nat × Nat), adl (L ++ [c]) x = (((adl L x).1 + c) % 65521, ((adl L x).2 + ((adl L x).1 + c) % 65521) % 65521)
  | [], c, x => rfl
  | d :: L, c, x => by simp only [List.cons_append, adl]; exact adl_snoc L c _
theorem adler_lt (L : List Nat) : adler L < 4294967296 := by
  have := adl_lt L (1, 0) (by decide) (by decide); unfold adler; omega
theorem adler_spec (hd : Dat p B D) (hB : ∀ x ∈ B, x < 256) (hl : B.length < 2 ^ 62) :
    CallsL Tryz.prog 12 #[.slice p B.length cap] D fun v H' => v = .int .u32 (adler B : Nat) ∧ H' = D := by
  refine CallsL_of func12 rfl ntmps12 rfl ?_
  try dsimp only [initE, Nat.zero_add]
  refine W_seq fun K1 hK1 => ?_; refine W_region ?_; refine xa rfl rfl ?_; refine WO_nil (sq_n (hK1 _ _ ?_)); refine W_seq fun K2 hK2 => ?_; refine W_region ?_; refine xa rfl rfl ?_; refine xa rfl rfl ?_; refine WO_nil (sq_n (hK2 _ _ ?_)); refine W_seq fun K3 hK3 => ?_; refine W_seq fun K4 hK4 => ?_; refine W_region ?_; refine xm rfl rfl ?_; refine xp (v_len rfl underlying22 rfl) rfl ?_; refine xm rfl rfl ?_; refine WO_nil (sq_n (hK4 _ _ ?_)); refine W_block ?_; refine W_loop (fun m E H => ∃ k, k ≤ B.length ∧ m = B.length - k ∧ Sub E [(3, .int .u32 ((adl (B.take k) (1, 0)).1 : Nat)), (4, .int .u32 ((adl (B.take k) (1, 0)).2 : Nat)), (7, .slice p B.length cap), (8, iV B.length), (9, iV k)] ∧ H = D) (m := _) (⟨0, by omega, rfl, ⟨rfl, rfl, rfl, rfl, rfl, trivial⟩, rfl⟩) ?_; rintro m E H ⟨k, hk, rfl, hE, rfl⟩; refine W.env hE ?_; have hlt := adl_lt (B.take k) (1, 0) (by decide) (by decide)
  refine W_seq fun K5 hK5 => ?_; refine W_region ?_; refine xp (n_lt rfl rfl rfl) rfl ?_; refine WO_nil (sq_n (hK5 _ _ ?_)); refine W_seq fun K6 hK6 => ?_; refine W_cond rfl (fun hc0 => ?_) (fun hc0 => ?_)
  · replace hc0 := of_decide_eq_true hc0; refine W_skip (sq_n (hK6 _ _ ?_)); refine W_seq fun K7 hK7 => ?_; refine W_block ?_; refine W_seq fun K8 hK8 => ?_; have hne : B ≠ [] := by intro e; subst e; exact absurd hc0 (by simp)
    obtain ⟨b2, off, c, ty, fz, r, rfl, hat, hc⟩ := hd hne; have hby := hB _ (List.getElem_mem hc0); refine W_region ?_; refine xp (v_ixs rfl underlying22 sizeOf5 rfl rfl (by omega)) rfl ?_; refine xv (v_ld rfl rfl isAgg5 (hc _ hc0)) rfl ?_; refine xa rfl rfl ?_; refine WO_nil (sq_n (hK8 _ _ ?_)); refine W_seq fun K9 hK9 => ?_; refine W_region ?_; refine xm rfl rfl ?_; refine xm rfl rfl ?_; refine xp (n_cv rfl underlying5 underlying29 rfl kW (by omega)) rfl ?_; refine xp (n_add rfl rfl rfl kW (by omega)) rfl ?_; refine xp (n_rem rfl rfl rfl (by omega)) rfl ?_; refine xa rfl rfl ?_; refine WO_nil (sq_n (hK9 _ _ ?_)); refine W_region ?_; refine xm rfl rfl ?_; refine xm rfl rfl ?_; refine xp (n_add rfl rfl rfl kW (by omega)) rfl ?_; refine xp (n_rem rfl rfl rfl (by omega)) rfl ?_; refine xa rfl rfl ?_; refine WO_nil (bl_n (sq_n (hK7 _ _ ?_))); refine W_region ?_
    refine xp (n_add rfl rfl rfl kI (by omega)) rfl ?_; refine xm rfl rfl ?_; refine WO_nil (sq_n (?_)); refine ⟨_, by omega, k + 1, by omega, rfl, ⟨?_, ?_, rfl, rfl, rfl, trivial⟩, rfl⟩
    · rw [List.take_add_one, List.getElem?_eq_getElem hc0, Option.toList_some, adl_snoc]; rfl
    · rw [List.take_add_one, List.getElem?_eq_getElem hc0, Option.toList_some, adl_snoc]; rfl
  · replace hc0 := of_decide_eq_false hc0; refine W_exit (sq_x (sq_x (bl_x (sq_n (hK3 _ _ ?_))))); refine W.keep [3,4] rfl ?_; refine W_seq fun K10 hK10 => ?_; obtain rfl : k = B.length := by omega
    rw [List.take_length] at hlt ⊢; refine W_region ?_; refine xm rfl rfl ?_; refine xp (n_shl rfl rfl rfl kW (by decide) (by omega)) rfl ?_; refine xm rfl rfl ?_; refine xp (n_oradd2 (s := 16) rfl rfl rfl kW (by omega) (by omega) (by omega)) rfl ?_; refine xa rfl rfl ?_; refine WO_nil (sq_n (hK10 _ _ ?_)); refine W.keep [2] rfl ?_; refine W_ret (ret_of (v := _) rfl ?_); exact ⟨rfl, rfl⟩
end
end Go.Proofs.YtpbahgddoamhgaaGreatDoor
namespace Go.Proofs.YtpbahgddoamhgaaGreatDoor.Sx
open Go.Proofs.Tryz
open Go Pu
abbrev wV (x : Nat) : Value := .int .u32 (x : Nat)
abbrev uV (x : Nat) : Value := .int .u64 (x : Nat)
abbrev hV (x : Nat) : Value := .int .u16 (x : Nat)
/-- a table of codes, as it lies in memory -/
structure HD where
  min : Nat
  ch : List Nat
  len : ch.length = 512
  links : Value
  mask : Nat
def HD.cells (h : HD) : List Value := iV h.min :: (h.ch.map wV ++ [h.links, wV h.mask])
theorem HD.cells_length (h : HD) : h.cells.length = 515 := by simp [HD.cells, h.len]
def HD.zero : HD := ⟨0, List.replicate 512 0, List.length_replicate, .slice none 0 0, 0⟩
theorem HD.get_min (h : HD) : h.cells[0]? = some (iV h.min) := rfl
theorem HD.get_ch (h : HD) {i : Nat} (hi : i < 512) : h.cells[1 + i]? = some (wV (h.ch.getD i 0)) := by
  have hl : i < h.ch.length := by rw [h.len]; exact hi
  rw [Nat.add_comm, HD.cells, List.getElem?_cons_succ, List.getElem?_append_left (by simpa using hl)]; simp [hl]
theorem HD.get_links (h : HD) : h.cells[513]? = some h.links := by
  rw [HD.cells, List.getElem?_cons_succ, List.getElem?_append_right (by simp [h.len])]; simp [h.len]
theorem HD.get_mask (h : HD) : h.cells[514]? = some (wV h.mask) := by
  rw [HD.cells, List.getElem?_cons_succ, List.getElem?_append_right (by simp [h.len])]; simp [h.len]

def ftl (bits cb hist wr rd full b0 b1 b2 b3 step sst fin err tr hl hd cl cd : Value) : List Value := [bits, cb, hist, wr, rd, full, b0, b1, b2, b3, step, sst, fin, err, tr, hl, hd, cl, cd]
/-- the decompressor -/
def fc (r rBuf ro b nb : Value) (h1 h2 : HD) (bits cb hist wr rd full b0 b1 b2 b3 step sst fin err tr hl hd cl cd : Value) : List Value := [r, rBuf, ro, b, nb] ++ (h1.cells ++ (h2.cells ++ ftl bits cb hist wr rd full b0 b1 b2 b3 step sst fin err tr hl hd cl cd))
section
variable {r rBuf ro b nb bits cb hist wr rd full b0 b1 b2 b3 step sst fin err tr hl hd cl cd v : Value} {h1 h2 : HD}
theorem fc_length : (fc r rBuf ro b nb h1 h2 bits cb hist wr rd full b0 b1 b2 b3 step sst fin err tr hl hd cl cd).length = 1054 := by simp [fc, HD.cells_length, ftl]
theorem fc_tl {k : Nat} (hk : k < 19) : (fc r rBuf ro b nb h1 h2 bits cb hist wr rd full b0 b1 b2 b3 step sst fin err tr hl hd cl cd)[1035 + k]? = (ftl bits cb hist wr rd full b0 b1 b2 b3 step sst fin err tr hl hd cl cd)[k]? := by
  unfold fc; rw [List.getElem?_append_right (by simp; omega), List.getElem?_append_right (by simp [HD.cells_length]; omega), List.getElem?_append_right (by simp [HD.cells_length]; omega)]; simp only [HD.cells_length, List.length_cons, List.length_nil]; rw [show 1035 + k - (0 + 1 + 1 + 1 + 1 + 1) - 515 - 515 = k by omega]
theorem fc_h1 {k : Nat} (hk : k < 515) : (fc r rBuf ro b nb h1 h2 bits cb hist wr rd full b0 b1 b2 b3 step sst fin err tr hl hd cl cd)[5 + k]? = h1.cells[k]? := by
  unfold fc; rw [List.getElem?_append_right (by simp), List.getElem?_append_left (by simp [HD.cells_length]; omega)]; simp
theorem fc_h2 {k : Nat} (hk : k < 515) : (fc r rBuf ro b nb h1 h2 bits cb hist wr rd full b0 b1 b2 b3 step sst fin err tr hl hd cl cd)[520 + k]? = h2.cells[k]? := by
  unfold fc; rw [List.getElem?_append_right (by simp; omega), List.getElem?_append_right (by simp [HD.cells_length]; omega), List.getElem?_append_left (by simp [HD.cells_length]; omega)]; simp only [HD.cells_length, List.length_cons, List.length_nil]; rw [show 520 + k - (0 + 1 + 1 + 1 + 1 + 1) - 515 = k by omega]
theorem set_tl {A B C T : List Value} {k : Nat} (hA : A.length = 5) (hB : B.length = 515) (hC : C.length = 515) : (A ++ (B ++ (C ++ T))).set (1035 + k) v = A ++ (B ++ (C ++ T.set k v)) := by
  rw [List.set_append, if_neg (by omega), List.set_append, if_neg (by omega), List.set_append, if_neg (by omega)]; rw [hA, hB, hC, show 1035 + k - 5 - 515 - 515 = k by omega]
instance : CAt (fc r rBuf ro b nb h1 h2 bits cb hist wr rd full b0 b1 b2 b3 step sst fin err tr hl hd cl cd) 0 r := ⟨rfl⟩
instance : CSet (fc r rBuf ro b nb h1 h2 bits cb hist wr rd full b0 b1 b2 b3 step sst fin err tr hl hd cl cd) 0 v (fc v rBuf ro b nb h1 h2 bits cb hist wr rd full b0 b1 b2 b3 step sst fin err tr hl hd cl cd) := ⟨rfl, by rw [fc_length]; decide⟩
instance : CAt (fc r rBuf ro b nb h1 h2 bits cb hist wr rd full b0 b1 b2 b3 step sst fin err tr hl hd cl cd) 1 rBuf := ⟨rfl⟩
instance : CSet (fc r rBuf ro b nb h1 h2 bits cb hist wr rd full b0 b1 b2 b3 step sst fin err tr hl hd cl cd) 1 v (fc r v ro b nb h1 h2 bits cb hist wr rd full b0 b1 b2 b3 step sst fin err tr hl hd cl cd) := ⟨rfl, by rw [fc_length]; decide⟩
instance : CAt (fc r rBuf ro b nb h1 h2 bits cb hist wr rd full b0 b1 b2 b3 step sst fin err tr hl hd cl cd) 2 ro := ⟨rfl⟩
instance : CSet (fc r rBuf ro b nb h1 h2 bits cb hist wr rd full b0 b1 b2 b3 step sst fin err tr hl hd cl cd) 2 v (fc r rBuf v b nb h1 h2 bits cb hist wr rd full b0 b1 b2 b3 step sst fin err tr hl hd cl cd) := ⟨rfl, by rw [fc_length]; decide⟩
instance : CAt (fc r rBuf ro b nb h1 h2 bits cb hist wr rd full b0 b1 b2 b3 step sst fin err tr hl hd cl cd) 3 b := ⟨rfl⟩
instance : CSet (fc r rBuf ro b nb h1 h2 bits cb hist wr rd full b0 b1 b2 b3 step sst fin err tr hl hd cl cd) 3 v (fc r rBuf ro v nb h1 h2 bits cb hist wr rd full b0 b1 b2 b3 step sst fin err tr hl hd cl cd) := ⟨rfl, by rw [fc_length]; decide⟩
instance : CAt (fc r rBuf ro b nb h1 h2 bits cb hist wr rd full b0 b1 b2 b3 step sst fin err tr hl hd cl cd) 4 nb := ⟨rfl⟩
instance : CSet (fc r rBuf ro b nb h1 h2 bits cb hist wr rd full b0 b1 b2 b3 step sst fin err tr hl hd cl cd) 4 v (fc r rBuf ro b v h1 h2 bits cb hist wr rd full b0 b1 b2 b3 step sst fin err tr hl hd cl cd) := ⟨rfl, by rw [fc_length]; decide⟩
instance : CAt (fc r rBuf ro b nb h1 h2 bits cb hist wr rd full b0 b1 b2 b3 step sst fin err tr hl hd cl cd) 1035 bits := ⟨fc_tl (k := 0) (by decide)⟩
instance : CSet (fc r rBuf ro b nb h1 h2 bits cb hist wr rd full b0 b1 b2 b3 step sst fin err tr hl hd cl cd) 1035 v (fc r rBuf ro b nb h1 h2 v cb hist wr rd full b0 b1 b2 b3 step sst fin err tr hl hd cl cd) := ⟨set_tl (k := 0) rfl (HD.cells_length _) (HD.cells_length _), by rw [fc_length]; decide⟩
instance : CAt (fc r rBuf ro b nb h1 h2 bits cb hist wr rd full b0 b1 b2 b3 step sst fin err tr hl hd cl cd) 1036 cb := ⟨fc_tl (k := 1) (by decide)⟩
instance : CSet (fc r rBuf ro b nb h1 h2 bits cb hist wr rd full b0 b1 b2 b3 step sst fin err tr hl hd cl cd) 1036 v (fc r rBuf ro b nb h1 h2 bits v hist wr rd full b0 b1 b2 b3 step sst fin err tr hl hd cl cd) := ⟨set_tl (k := 1) rfl (HD.cells_length _) (HD.cells_length _), by rw [fc_length]; decide⟩
instance : CAt (fc r rBuf ro b nb h1 h2 bits cb hist wr rd full b0 b1 b2 b3 step sst fin err tr hl hd cl cd) 1037 hist := ⟨fc_tl (k := 2) (by decide)⟩
instance : CSet (fc r rBuf ro b nb h1 h2 bits cb hist wr rd full b0 b1 b2 b3 step sst fin err tr hl hd cl cd) 1037 v (fc r rBuf ro b nb h1 h2 bits cb v wr rd full b0 b1 b2 b3 step sst fin err tr hl hd cl cd) := ⟨set_tl (k := 2) rfl (HD.cells_length _) (HD.cells_length _), by rw [fc_length]; decide⟩
instance : CAt (fc r rBuf ro b nb h1 h2 bits cb hist wr rd full b0 b1 b2 b3 step sst fin err tr hl hd cl cd) 1038 wr := ⟨fc_tl (k := 3) (by decide)⟩
instance : CSet (fc r rBuf ro b nb h1 h2 bits cb hist wr rd full b0 b1 b2 b3 step sst fin err tr hl hd cl cd) 1038 v (fc r rBuf ro b nb h1 h2 bits cb hist v rd full b0 b1 b2 b3 step sst fin err tr hl hd cl cd) := ⟨set_tl (k := 3) rfl (HD.cells_length _) (HD.cells_length _), by rw [fc_length]; decide⟩
instance : CAt (fc r rBuf ro b nb h1 h2 bits cb hist wr rd full b0 b1 b2 b3 step sst fin err tr hl hd cl cd) 1039 rd := ⟨fc_tl (k := 4) (by decide)⟩
instance : CSet (fc r rBuf ro b nb h1 h2 bits cb hist wr rd full b0 b1 b2 b3 step sst fin err tr hl hd cl cd) 1039 v (fc r rBuf ro b nb h1 h2 bits cb hist wr v full b0 b1 b2 b3 step sst fin err tr hl hd cl cd) := ⟨set_tl (k := 4) rfl (HD.cells_length _) (HD.cells_length _), by rw [fc_length]; decide⟩
instance : CAt (fc r rBuf ro b nb h1 h2 bits cb hist wr rd full b0 b1 b2 b3 step sst fin err tr hl hd cl cd) 1040 full := ⟨fc_tl (k := 5) (by decide)⟩
instance : CSet (fc r rBuf ro b nb h1 h2 bits cb hist wr rd full b0 b1 b2 b3 step sst fin err tr hl hd cl cd) 1040 v (fc r rBuf ro b nb h1 h2 bits cb hist wr rd v b0 b1 b2 b3 step sst fin err tr hl hd cl cd) := ⟨set_tl (k := 5) rfl (HD.cells_length _) (HD.cells_length _), by rw [fc_length]; decide⟩
instance : CAt (fc r rBuf ro b nb h1 h2 bits cb hist wr rd full b0 b1 b2 b3 step sst fin err tr hl hd cl cd) 1041 b0 := ⟨fc_tl (k := 6) (by decide)⟩
instance : CSet (fc r rBuf ro b nb h1 h2 bits cb hist wr rd full b0 b1 b2 b3 step sst fin err tr hl hd cl cd) 1041 v (fc r rBuf ro b nb h1 h2 bits cb hist wr rd full v b1 b2 b3 step sst fin err tr hl hd cl cd) := ⟨set_tl (k := 6) rfl (HD.cells_length _) (HD.cells_length _), by rw [fc_length]; decide⟩
instance : CAt (fc r rBuf ro b nb h1 h2 bits cb hist wr rd full b0 b1 b2 b3 step sst fin err tr hl hd cl cd) 1042 b1 := ⟨fc_tl (k := 7) (by decide)⟩
instance : CSet (fc r rBuf ro b nb h1 h2 bits cb hist wr rd full b0 b1 b2 b3 step sst fin err tr hl hd cl cd) 1042 v (fc r rBuf ro b nb h1 h2 bits cb hist wr rd full b0 v b2 b3 step sst fin err tr hl hd cl cd) := ⟨set_tl (k := 7) rfl (HD.cells_length _) (HD.cells_length _), by rw [fc_length]; decide⟩
instance : CAt (fc r rBuf ro b nb h1 h2 bits cb hist wr rd full b0 b1 b2 b3 step sst fin err tr hl hd cl cd) 1043 b2 := ⟨fc_tl (k := 8) (by decide)⟩
instance : CSet (fc r rBuf ro b nb h1 h2 bits cb hist wr rd full b0 b1 b2 b3 step sst fin err tr hl hd cl cd) 1043 v (fc r rBuf ro b nb h1 h2 bits cb hist wr rd full b0 b1 v b3 step sst fin err tr hl hd cl cd) := ⟨set_tl (k := 8) rfl (HD.cells_length _) (HD.cells_length _), by rw [fc_length]; decide⟩
instance : CAt (fc r rBuf ro b nb h1 h2 bits cb hist wr rd full b0 b1 b2 b3 step sst fin err tr hl hd cl cd) 1044 b3 := ⟨fc_tl (k := 9) (by decide)⟩
instance : CSet (fc r rBuf ro b nb h1 h2 bits cb hist wr rd full b0 b1 b2 b3 step sst fin err tr hl hd cl cd) 1044 v (fc r rBuf ro b nb h1 h2 bits cb hist wr rd full b0 b1 b2 v step sst fin err tr hl hd cl cd) := ⟨set_tl (k := 9) rfl (HD.cells_length _) (HD.cells_length _), by rw [fc_length]; decide⟩
instance : CAt (fc r rBuf ro b nb h1 h2 bits cb hist wr rd full b0 b1 b2 b3 step sst fin err tr hl hd cl cd) 1045 step := ⟨fc_tl (k := 10) (by decide)⟩
instance : CSet (fc r rBuf ro b nb h1 h2 bits cb hist wr rd full b0 b1 b2 b3 step sst fin err tr hl hd cl cd) 1045 v (fc r rBuf ro b nb h1 h2 bits cb hist wr rd full b0 b1 b2 b3 v sst fin err tr hl hd cl cd) := ⟨set_tl (k := 10) rfl (HD.cells_length _) (HD.cells_length _), by rw [fc_length]; decide⟩
instance : CAt (fc r rBuf ro b nb h1 h2 bits cb hist wr rd full b0 b1 b2 b3 step sst fin err tr hl hd cl cd) 1046 sst := ⟨fc_tl (k := 11) (by decide)⟩
instance : CSet (fc r rBuf ro b nb h1 h2 bits cb hist wr rd full b0 b1 b2 b3 step sst fin err tr hl hd cl cd) 1046 v (fc r rBuf ro b nb h1 h2 bits cb hist wr rd full b0 b1 b2 b3 step v fin err tr hl hd cl cd) := ⟨set_tl (k := 11) rfl (HD.cells_length _) (HD.cells_length _), by rw [fc_length]; decide⟩
instance : CAt (fc r rBuf ro b nb h1 h2 bits cb hist wr rd full b0 b1 b2 b3 step sst fin err tr hl hd cl cd) 1047 fin := ⟨fc_tl (k := 12) (by decide)⟩
instance : CSet (fc r rBuf ro b nb h1 h2 bits cb hist wr rd full b0 b1 b2 b3 step sst fin err tr hl hd cl cd) 1047 v (fc r rBuf ro b nb h1 h2 bits cb hist wr rd full b0 b1 b2 b3 step sst v err tr hl hd cl cd) := ⟨set_tl (k := 12) rfl (HD.cells_length _) (HD.cells_length _), by rw [fc_length]; decide⟩
instance : CAt (fc r rBuf ro b nb h1 h2 bits cb hist wr rd full b0 b1 b2 b3 step sst fin err tr hl hd cl cd) 1048 err := ⟨fc_tl (k := 13) (by decide)⟩
instance : CSet (fc r rBuf ro b nb h1 h2 bits cb hist wr rd full b0 b1 b2 b3 step sst fin err tr hl hd cl cd) 1048 v (fc r rBuf ro b nb h1 h2 bits cb hist wr rd full b0 b1 b2 b3 step sst fin v tr hl hd cl cd) := ⟨set_tl (k := 13) rfl (HD.cells_length _) (HD.cells_length _), by rw [fc_length]; decide⟩
instance : CAt (fc r rBuf ro b nb h1 h2 bits cb hist wr rd full b0 b1 b2 b3 step sst fin err tr hl hd cl cd) 1049 tr := ⟨fc_tl (k := 14) (by decide)⟩
instance : CSet (fc r rBuf ro b nb h1 h2 bits cb hist wr rd full b0 b1 b2 b3 step sst fin err tr hl hd cl cd) 1049 v (fc r rBuf ro b nb h1 h2 bits cb hist wr rd full b0 b1 b2 b3 step sst fin err v hl hd cl cd) := ⟨set_tl (k := 14) rfl (HD.cells_length _) (HD.cells_length _), by rw [fc_length]; decide⟩
instance : CAt (fc r rBuf ro b nb h1 h2 bits cb hist wr rd full b0 b1 b2 b3 step sst fin err tr hl hd cl cd) 1050 hl := ⟨fc_tl (k := 15) (by decide)⟩
instance : CSet (fc r rBuf ro b nb h1 h2 bits cb hist wr rd full b0 b1 b2 b3 step sst fin err tr hl hd cl cd) 1050 v (fc r rBuf ro b nb h1 h2 bits cb hist wr rd full b0 b1 b2 b3 step sst fin err tr v hd cl cd) := ⟨set_tl (k := 15) rfl (HD.cells_length _) (HD.cells_length _), by rw [fc_length]; decide⟩
instance : CAt (fc r rBuf ro b nb h1 h2 bits cb hist wr rd full b0 b1 b2 b3 step sst fin err tr hl hd cl cd) 1051 hd := ⟨fc_tl (k := 16) (by decide)⟩
instance : CSet (fc r rBuf ro b nb h1 h2 bits cb hist wr rd full b0 b1 b2 b3 step sst fin err tr hl hd cl cd) 1051 v (fc r rBuf ro b nb h1 h2 bits cb hist wr rd full b0 b1 b2 b3 step sst fin err tr hl v cl cd) := ⟨set_tl (k := 16) rfl (HD.cells_length _) (HD.cells_length _), by rw [fc_length]; decide⟩
instance : CAt (fc r rBuf ro b nb h1 h2 bits cb hist wr rd full b0 b1 b2 b3 step sst fin err tr hl hd cl cd) 1052 cl := ⟨fc_tl (k := 17) (by decide)⟩
instance : CSet (fc r rBuf ro b nb h1 h2 bits cb hist wr rd full b0 b1 b2 b3 step sst fin err tr hl hd cl cd) 1052 v (fc r rBuf ro b nb h1 h2 bits cb hist wr rd full b0 b1 b2 b3 step sst fin err tr hl hd v cd) := ⟨set_tl (k := 17) rfl (HD.cells_length _) (HD.cells_length _), by rw [fc_length]; decide⟩
instance : CAt (fc r rBuf ro b nb h1 h2 bits cb hist wr rd full b0 b1 b2 b3 step sst fin err tr hl hd cl cd) 1053 cd := ⟨fc_tl (k := 18) (by decide)⟩
instance : CSet (fc r rBuf ro b nb h1 h2 bits cb hist wr rd full b0 b1 b2 b3 step sst fin err tr hl hd cl cd) 1053 v (fc r rBuf ro b nb h1 h2 bits cb hist wr rd full b0 b1 b2 b3 step sst fin err tr hl hd cl v) := ⟨set_tl (k := 18) rfl (HD.cells_length _) (HD.cells_length _), by rw [fc_length]; decide⟩
end
instance (priority := 2000) : FA 1037 1 1038 := ⟨rfl⟩
instance (priority := 2000) : FA 1037 2 1039 := ⟨rfl⟩
instance (priority := 2000) : FA 1037 3 1040 := ⟨rfl⟩
instance (priority := 2000) : FA 5 1 6 := ⟨rfl⟩
instance (priority := 2000) : FA 5 513 518 := ⟨rfl⟩
instance (priority := 2000) : FA 5 514 519 := ⟨rfl⟩
instance (priority := 2000) : FA 520 1 521 := ⟨rfl⟩
instance (priority := 2000) : FA 520 513 1033 := ⟨rfl⟩
instance (priority := 2000) : FA 520 514 1034 := ⟨rfl⟩

/-! errors -/
/-- an error that a variable holds -/
abbrev errV (a : Addr) : Value := .iface 184 (.pointer (some a))
def isIf : Value → Bool
  | .iface _ _ => true
  | _ => false
section
variable {n : Nat} {E : El} {H : Hl} {o : Oper} {x y : Operand} {t' : TypeId}
theorem i47 : Tryz.prog.underlying 47 = some (.interface #[("Error", 187)]) := by kernel_rfl
theorem i184 : Tryz.prog.underlying 184 = some (.pointer 212) := underlying184
theorem any_some {α : Type} {x : Option α} {p : α → Bool} (h : x.any p = true) : ∃ i, x = some i ∧ p i = true := by
  cases x with
  | none => cases h
  | some i => exact ⟨i, rfl, h⟩
theorem info184 : ∃ i, Tryz.prog.info? 184 = some i ∧ i.comparable = true := any_some (p := fun i : TypeInfo => i.comparable) (by kernel_rfl)
theorem info212 : ∃ i, Tryz.prog.info? 212 = some i ∧ i.size ≠ 0 := by
  obtain ⟨i, h1, h2⟩ := any_some (x := Tryz.prog.info? 212) (p := fun i : TypeInfo => i.size != 0) (by kernel_rfl); exact ⟨i, h1, by simpa using h2⟩
theorem v_nen (ho : o.op = .binOp .neq 47 x (.const .nilIface) t') (hx : ev E x = some .nilIface) : OP Tryz.prog n E o (.bool false) := fun a w ha => by
  have h : ∀ d : Nat, (Op.equalIn (d + 1) 47 .nilIface .nilIface).run Tryz.prog w = .ok true w := fun d => by simp [Op.equalIn, run_underlying i47]
  have hc : a.eval (.const .nilIface) = .nilIface := rfl; simp [execOp, ho, ev_sound ha hx, hc, eqGuard, binOp, Op.equal, Op.maxDepth, h 9999]
theorem v_nei {v : Value} (ho : o.op = .binOp .neq 47 x (.const .nilIface) t') (hx : ev E x = some v) (hv : isIf v = true) : OP Tryz.prog n E o (.bool true) := fun a w ha => by
  cases v <;> simp [isIf] at hv
  rename_i t v; have h : ∀ d : Nat, (Op.equalIn (d + 1) 47 (.iface t v) .nilIface).run Tryz.prog w = .ok false w := fun d => by simp [Op.equalIn, run_underlying i47]
  have hc : a.eval (.const .nilIface) = .nilIface := rfl; simp [execOp, ho, ev_sound ha hx, hc, eqGuard, binOp, Op.equal, Op.maxDepth, h 9999]
theorem v_eqs {a : Addr} (ho : o.op = .binOp .eql 47 x y t') (hx : ev E x = some (errV a)) (hy : ev E y = some (errV a)) : OP Tryz.prog n E o (.bool true) := fun s w ha => by
  obtain ⟨i, h1, h2⟩ := info184; obtain ⟨j, h3, h4⟩ := info212; have := run_eql_iface_ptr_same w a i47 i184 h1 h2 h3; simp [execOp, ho, ev_sound ha hx, ev_sound ha hy, eqGuard, this]
theorem v_eqo {a b : Addr} {ca cb : List Value} {ta tb : TypeId} {ra rb : Obj → Hl} (ho : o.op = .binOp .eql 47 x y t') (hx : ev E x = some (errV a)) (hy : ev E y = some (errV b)) (hne : a ≠ b) (ha : AtH H a.block (.cells ca.toArray ta (0, 0)) ra) (hb : AtH H b.block (.cells cb.toArray tb (0, 0)) rb) : OV Tryz.prog n E H o (.bool false) := fun O F s w hag hp => by
  obtain ⟨i, h1, h2⟩ := info184; obtain ⟨j, h3, h4⟩ := info212; have := run_eql_iface_ptr_other w i47 i184 h1 h2 h3 h4 hne (ha.has hp) (hb.has hp); simp [execOp, ho, ev_sound hag hx, ev_sound hag hy, eqGuard, this]
theorem v_eqt {t u : TypeId} {v z : Value} (ho : o.op = .binOp .eql 47 x y t') (hx : ev E x = some (.iface t v)) (hy : ev E y = some (.iface u z)) (hne : t ≠ u) : OP Tryz.prog n E o (.bool false) := fun s w ha => by
  have h : ∀ d : Nat, (Op.equalIn (d + 1) 47 (.iface t v) (.iface u z)).run Tryz.prog w = .ok false w := fun d => by simp [Op.equalIn, run_underlying i47, hne]
  simp [execOp, ho, ev_sound ha hx, ev_sound ha hy, eqGuard, binOp, Op.equal, Op.maxDepth, h 9999]
theorem v_eqn {u : TypeId} {z : Value} (ho : o.op = .binOp .eql 47 x y t') (hx : ev E x = some .nilIface) (hy : ev E y = some (.iface u z)) : OP Tryz.prog n E o (.bool false) := fun s w ha => by
  have h : ∀ d : Nat, (Op.equalIn (d + 1) 47 .nilIface (.iface u z)).run Tryz.prog w = .ok false w := fun d => by simp [Op.equalIn, run_underlying i47]
  simp [execOp, ho, ev_sound ha hx, ev_sound ha hy, eqGuard, binOp, Op.equal, Op.maxDepth, h 9999]
end
/-- what the variables hold -/
structure GD (D : Hl) (eof shb uex hdr dic chk : Addr) : Prop where
  g0 : ∃ t fz r, AtH D 0 (.cells (List.toArray [errV eof]) t fz) r
  g1 : ∃ t fz r, AtH D 1 (.cells (List.toArray [errV hdr]) t fz) r
  g2 : ∃ t fz r, AtH D 2 (.cells (List.toArray [errV dic]) t fz) r
  g3 : ∃ t fz r, AtH D 3 (.cells (List.toArray [errV chk]) t fz) r
  g4 : ∃ t fz r, AtH D 4 (.cells (List.toArray [errV uex]) t fz) r
  g6 : ∃ t fz r, AtH D 6 (.cells (List.toArray [errV shb]) t fz) r
  g7 : ∃ t fz r, AtH D 7 (.cells (List.toArray (orderL.map iV)) t fz) r
  bl : ∀ a ∈ [eof, shb, uex, hdr, dic, chk], ∃ c t r, AtH D a.block (.cells (List.toArray c) t (0, 0)) r
  ne : [eof, shb, uex, hdr, dic, chk].Nodup
theorem GD.cons {D : Hl} {eof shb uex hdr dic chk : Addr} (h : GD D eof shb uex hdr dic chk) (x : Nat × Obj) : GD (x :: D) eof shb uex hdr dic chk := by
  obtain ⟨⟨_, _, _, _⟩, ⟨_, _, _, _⟩, ⟨_, _, _, _⟩, ⟨_, _, _, _⟩, ⟨_, _, _, _⟩, ⟨_, _, _, _⟩, ⟨_, _, _, _⟩, hb, hn⟩ := h; exact ⟨⟨_, _, _, AtH.there⟩, ⟨_, _, _, AtH.there⟩, ⟨_, _, _, AtH.there⟩, ⟨_, _, _, AtH.there⟩, ⟨_, _, _, AtH.there⟩, ⟨_, _, _, AtH.there⟩, ⟨_, _, _, AtH.there⟩, fun a ha => by obtain ⟨c, t, r, h⟩ := hb a ha; exact ⟨c, t, _, AtH.there⟩, hn⟩
theorem GD.app {D : Hl} {eof shb uex hdr dic chk : Addr} (h : GD D eof shb uex hdr dic chk) : ∀ G : Hl, GD (G ++ D) eof shb uex hdr dic chk
  | [] => h
  | x :: G => (h.app G).cons x
end Go.Proofs.YtpbahgddoamhgaaGreatDoor.Sx
namespace Go.Proofs.YtpbahgddoamhgaaGreatDoor.Sx
open Go Pu
section
variable {P : Program} {n : Nat} {E : El} {H : Hl} {o : Oper} {t t' : TypeId} {x y : Operand} {i j : Int} {k : IntKind} {a b M : Nat}
theorem n_mask (s : Nat) (ho : o.op = .binOp .and t x y t') (hx : ev E x = some (.int k i)) (hy : ev E y = some (.int k j)) [hi : NO i a] [hj : NO j b] (K : Kd k M) (h : a < M) (hb : b < M) (hs : b + 1 = 2 ^ s) : OP P n E o (.int k (a % 2 ^ s : Nat)) := by
  have := n_and (P := P) (n := n) ho hx hy K h hb; rwa [show b = 2 ^ s - 1 by omega, Nat.and_two_pow_sub_one_eq_mod] at this
theorem n_keep (s : Nat) (ho : o.op = .binOp .and t x y t') (hx : ev E x = some (.int k i)) (hy : ev E y = some (.int k j)) [hi : NO i a] [hj : NO j b] (K : Kd k M) (h : a < M) (hb : b < M) (hs : b + 1 = 2 ^ s) (ha : a < 2 ^ s) : OP P n E o (.int k (a : Nat)) := by
  have := n_mask (P := P) (n := n) s ho hx hy K h hb hs; rwa [Nat.mod_eq_of_lt ha] at this
theorem v_sta {ty : TypeId} {z p : Nat} {c vs c' : List Value} {r : Obj → Hl} {bl : Nat} (ho : o.op = .store t x y) (hx : ev E x = some (.pointer (some ⟨bl, p, none⟩))) (hy : ev E y = some (.agg vs.toArray)) (hz : ∀ w, (sizeOf t).run P w = .ok z w) (hv : vs.length = z) (hone : ∀ v ∈ vs, one v = true)
    [ha : AtH H bl (.cells c.toArray ty (0, 0)) r] (hc : put c p vs = c') (hl : p + vs.length ≤ c.length) : OS P n E H o (fun u H' => u = undef ∧ H' = r (.cells c'.toArray ty (0, 0))) := fun O F a w hag hp => by
  have hb := ha.has hp; obtain ⟨w', h2, h3, h4, h5, h6⟩ := run_storeCells (P := P) (b := bl) (p := p) (ty := ty) vs c 0 w hb hone (by omega); rw [Nat.add_zero, hc] at h6; refine ⟨undef, w', _, .inr ⟨?_, rfl⟩, ⟨rfl, rfl⟩, ha.set hp h3 h4 h5 h6⟩; have hcs : (Value.agg vs.toArray).cells = vs.toArray := rfl; simp [execOp, ho, ev_sound hag hx, ev_sound hag hy, Instr.storeAt, Instr.sureAddr, storeVar, hz, hcs, hv, h2]
theorem v_ala {c : List Value} (ho : o.op = .alloc t) (hz : ∀ w, (zeroValue t).run P w = .ok (.agg c.toArray) w) : OS P n E H o (Fresh H (.cells c.toArray t)) := v_al ho hz
theorem AtH.idx {H : Hl} {v b : Nat} {o : Obj} (h : H[v]? = some (b, o)) : AtH H b o (fun o' => H.set v (b, o')) := by
  have hv : v < H.length := (List.getElem?_eq_some_iff.1 h).1; refine ⟨H.take v, H.drop (v + 1), ?_, ?_⟩
  · have e : H[v] = (b, o) := (List.getElem?_eq_some_iff.1 h).2; rw [← e, ← List.drop_eq_getElem_cons hv, List.take_append_drop]
  · funext o'; rw [List.set_eq_take_append_cons_drop, if_pos hv]
end
end Go.Proofs.YtpbahgddoamhgaaGreatDoor.Sx
namespace Go.Proofs.YtpbahgddoamhgaaGreatDoor
open Go Sx Pu
set_option maxRecDepth 10000

def acc : List Nat → Nat × Nat → Nat × Nat
  | [], x => x
  | c :: l, x => acc l (x.1 + c, x.2 + (x.1 + c))
theorem acc_snoc : ∀ (l : List Nat) (c : Nat) (x : Nat × Nat), acc (l ++ [c]) x = ((acc l x).1 + c, (acc l x).2 + ((acc l x).1 + c))
  | [], c, x => rfl
  | d :: l, c, x => by simp only [List.cons_append, acc]; exact acc_snoc l c _
theorem acc_bound : ∀ (l : List Nat) (x : Nat × Nat), (∀ c ∈ l, c < 256) → (acc l x).1 ≤ x.1 + 255 * l.length ∧ 2 * (acc l x).2 ≤ 2 * x.2 + 2 * (l.length * x.1) + 255 * (l.length * (l.length + 1))
  | [], x, _ => by simp [acc]
  | c :: l, x, h => by
    have hc := h c (by simp); obtain ⟨h1, h2⟩ := acc_bound l (x.1 + c, x.2 + (x.1 + c)) (fun d hd => h d (by simp [hd])); simp only [acc, List.length_cons]; have e1 : l.length * (x.1 + c) = l.length * x.1 + l.length * c := Nat.mul_add _ _ _; have e2 : (l.length + 1) * x.1 = l.length * x.1 + x.1 := by rw [Nat.add_mul, Nat.one_mul]
    have e3 : (l.length + 1) * (l.length + 1 + 1) = l.length * (l.length + 1) + 2 * l.length + 2 := by
      rw [Nat.add_mul, Nat.mul_add]; omega
    have e4 : l.length * c ≤ l.length * 255 := Nat.mul_le_mul_left _ (by omega); simp only at h1 h2; omega
theorem acc_small {l : List Nat} {x : Nat × Nat} (h : ∀ c ∈ l, c < 256) (hl : l.length ≤ 5552) (h1 : x.1 < 65521) (h2 : x.2 < 65521) : (acc l x).1 < 4294967296 ∧ (acc l x).2 < 4294967296 := by
  obtain ⟨b1, b2⟩ := acc_bound l x h; have e1 : l.length * x.1 ≤ 5552 * 65520 := Nat.mul_le_mul hl (by omega); have e2 : l.length * (l.length + 1) ≤ 5552 * 5553 := Nat.mul_le_mul hl (by omega); omega
theorem acc_mod : ∀ (l : List Nat) (x : Nat × Nat), adl l (x.1 % 65521, x.2 % 65521) = ((acc l x).1 % 65521, (acc l x).2 % 65521)
  | [], x => rfl
  | c :: l, x => by
    rw [adl, acc]; have := acc_mod l (x.1 + c, x.2 + (x.1 + c)); simp only at this ⊢; rw [← this]; congr 2
    · rw [Nat.mod_add_mod]
    · omega
theorem adl_app : ∀ (a b : List Nat) (x : Nat × Nat), adl (a ++ b) x = adl b (adl a x)
  | [], b, x => rfl
  | c :: a, b, x => by simp only [List.cons_append, adl]; exact adl_app a b _
theorem getD_lt {l : List Nat} {i : Nat} (h : i < l.length) : l.getD i 0 = l[i] := by rw [List.getD_eq_getElem?_getD, List.getElem?_eq_getElem h]; rfl
theorem take_snoc {l : List Nat} {m : Nat} (h : m < l.length) : l.take (m + 1) = l.take m ++ [l.getD m 0] := by
  rw [List.take_add_one, List.getElem?_eq_getElem h, List.getD_eq_getElem?_getD, List.getElem?_eq_getElem h]; rfl
theorem Sx.DatV.tail {f : Nat → Value} {p : Option Addr} {L : List Nat} {D : Hl} {m i : Nat} (h : DatV f p L D) (hm : L.length ≤ m) : DatV f (pmv p m i 1) (L.drop i) D := by
  have := h.sub (l := i) (u := L.length) (m := m) (Nat.le_refl _) hm; rwa [List.take_length] at this
theorem Sx.DatV.head {f : Nat → Value} {p : Option Addr} {L : List Nat} {D : Hl} {m u : Nat} (h : DatV f p L D) (hu : u ≤ L.length) (hm : u ≤ m) : DatV f (pmv p m 0 1) (L.take u) D := by
  have := h.sub (l := 0) (u := u) (m := m) hu hm; rwa [List.drop_zero] at this
theorem Sx.DatV.at {f : Nat → Value} {p : Option Addr} {L : List Nat} {D : Hl} (h : DatV f p L D) (hne : 0 < L.length) : ∃ b off c ty fz r, p = some ⟨b, off, none⟩ ∧ AtH D b (.cells (List.toArray c) ty fz) r ∧ ∀ i, i < L.length → c[off + i]? = some (f (L.getD i 0)) := by
  obtain ⟨b, off, c, ty, fz, r, h1, h2, h3⟩ := h (by intro e; subst e; simp at hne); refine ⟨b, off, c, ty, fz, r, h1, h2, fun i hi => ?_⟩; rw [h3 i hi, List.getD_eq_getElem?_getD, List.getElem?_eq_getElem hi]; rfl
end Go.Proofs.YtpbahgddoamhgaaGreatDoor
namespace Go.Proofs.YtpbahgddoamhgaaGreatDoor
open Go.Proofs.Tryz
open Go Sx Pu
set_option maxRecDepth 10000

/-- the source's block -/
abbrev srcO (v : Value) (i : Nat) (pr : Value) : Obj := .cells (List.toArray [v, .int .i64 (i : Nat), pr]) 77 (0, 0)
section
variable {p : Option Addr} {cap k : Nat} {S : List Nat} {D : Hl} {eof shb uex hdr dic chk : Addr} {pr : Value}

theorem readByte_spec {i : Nat} (hG : GD D eof shb uex hdr dic chk) (hd : Dat p S D) (hl : S.length < 2 ^ 62) (hi : i ≤ S.length) :
    CallsL Tryz.prog 106 #[.pointer (some ⟨k, 0, none⟩)] ((k, srcO (.slice p S.length cap) i pr) :: D) fun v H' =>
      ∃ pr', (i < S.length ∧ v = .tuple #[bV (S.getD i 0), .nilIface] ∧ H' = (k, srcO (.slice p S.length cap) (i + 1) pr') :: D) ∨
        (i = S.length ∧ v = .tuple #[.int .u8 0, errV eof] ∧ H' = (k, srcO (.slice p S.length cap) i pr') :: D) := by
  obtain ⟨_, _, _, hg0⟩ := hG.g0; refine CallsL_of func106 rfl ntmps106 rfl ?_
  try dsimp only [initE, Nat.zero_add]
  refine W_seq fun K1 hK1 => ?_; refine W_region ?_; refine xa rfl rfl ?_; refine xa rfl rfl ?_; refine WO_nil (sq_n (hK1 _ _ ?_)); refine W_seq fun K2 hK2 => ?_; refine W_region ?_; refine xm rfl rfl ?_; refine xn rfl rfl ?_; refine xp (v_fa (q := 2) rfl underlying77 rfl rfl sizeOf3 rfl) rfl ?_; refine wst rfl rfl rfl sizeOf3 rfl rfl rfl ?_; refine WO_nil (sq_n (hK2 _ _ ?_)); refine W.keep [0,2,3] rfl ?_; refine W_seq fun K3 hK3 => ?_; refine W_seq fun K4 hK4 => ?_; refine W_draw mixed ?_; refine WA_k (fuel := 0) [0,1,2,3,4,5,6,7,8,9] rfl (by kernel_rfl) ?_; refine ym rfl rfl rfl ?_; refine yp rfl (v_nil rfl rfl) rfl ?_; refine yp rfl (v_fa (q := 1) rfl underlying77 rfl rfl sizeOf2 rfl) rfl ?_; refine yv rfl (ld rfl rfl isAgg2) rfl ?_; refine ym rfl rfl rfl ?_; refine yp rfl (v_nil rfl rfl) rfl ?_; refine yp rfl (v_fa (q := 0) rfl underlying77 rfl rfl sizeOf22 rfl) rfl ?_
  refine yv rfl (ld rfl rfl isAgg22) rfl ?_; refine yp rfl (v_len rfl underlying22 rfl) rfl ?_; refine yp rfl (n_ge rfl rfl rfl) rfl ?_; refine WK_nil ?_; refine WA_nil (by kernel_rfl) (sq_n (hK4 _ _ ?_)); refine W.keep [0,2,3,17] rfl ?_; refine W_cond rfl (fun hc0 => ?_) (fun hc0 => ?_)
  · replace hc0 := of_decide_eq_true hc0; refine W_seq fun K5 hK5 => ?_; refine W_draw mixed ?_; refine WA_k (fuel := 0) [0,1,2] rfl (by kernel_rfl) ?_; refine yv rfl (ld rfl rfl isAgg47) rfl ?_; refine yp rfl (v_as rfl rfl) rfl ?_; refine yp rfl (v_as rfl rfl) rfl ?_; refine WK_nil ?_; refine WA_nil (by kernel_rfl) (sq_n (hK5 _ _ ?_)); refine W_ret (sq_r (ret_of (v := _) rfl ?_)); exact ⟨_, .inr ⟨by omega, rfl, rfl⟩⟩
  · replace hc0 := of_decide_eq_false hc0; refine W_skip (sq_n (hK3 _ _ ?_)); refine W_seq fun K6 hK6 => ?_; have hlt : i < S.length := by omega
    have hne : S ≠ [] := by intro e; subst e; simp at hlt
    obtain ⟨b2, off, c, ty, fz, r, rfl, hat, hc⟩ := hd hne; refine W_draw mixed ?_; refine WA_k (fuel := 0) [0,1,2,3,4,5,6,7,8,9,10] rfl (by kernel_rfl) ?_; refine ym rfl rfl rfl ?_; refine yp rfl (v_nil rfl rfl) rfl ?_; refine yp rfl (v_fa (q := 0) rfl underlying77 rfl rfl sizeOf22 rfl) rfl ?_; refine yv rfl (ld rfl rfl isAgg22) rfl ?_; refine ym rfl rfl rfl ?_; refine yp rfl (v_nil rfl rfl) rfl ?_; refine yp rfl (v_fa (q := 1) rfl underlying77 rfl rfl sizeOf2 rfl) rfl ?_; refine yv rfl (ld rfl rfl isAgg2) rfl ?_; refine yp rfl (v_ixs rfl underlying22 sizeOf5 rfl rfl (by omega)) rfl ?_; refine yv rfl (v_ld rfl rfl isAgg5 (hc _ hlt)) rfl ?_; refine yp rfl (v_as rfl rfl) rfl ?_; refine WK_nil ?_; refine WA_nil (by kernel_rfl) (sq_n (hK6 _ _ ?_)); refine W.keep [0,2,3,4] rfl ?_; refine W_seq fun K7 hK7 => ?_; refine W_region ?_; refine xm rfl rfl ?_; refine xn rfl rfl ?_
    refine xp (v_fa (q := 1) rfl underlying77 rfl rfl sizeOf2 rfl) rfl ?_; refine xv (ld rfl rfl isAgg2) rfl ?_; refine xp (n_add rfl rfl rfl kI (by omega)) rfl ?_; refine xn rfl rfl ?_; refine xp (v_fa (q := 1) rfl underlying77 rfl rfl sizeOf2 rfl) rfl ?_; refine wst rfl rfl rfl sizeOf2 rfl rfl rfl ?_; refine WO_nil (sq_n (hK7 _ _ ?_)); refine W.keep [2,3,4] rfl ?_; refine W_seq fun K8 hK8 => ?_; refine W_region ?_; refine xm rfl rfl ?_; refine xa rfl rfl ?_; refine xa rfl rfl ?_; refine WO_nil (sq_n (hK8 _ _ ?_)); refine W_ret (ret_of (v := _) rfl ?_); refine ⟨_, .inl ⟨hlt, ?_, rfl⟩⟩; simp [hlt]
theorem readerLen_spec {i : Nat} (hl : S.length < 2 ^ 62) (hi : i ≤ S.length) :
    CallsL Tryz.prog 21 #[.pointer (some ⟨k, 0, none⟩)] ((k, srcO (.slice p S.length cap) i pr) :: D) fun v H' => v = iV (S.length - i) ∧ H' = (k, srcO (.slice p S.length cap) i pr) :: D := by
  refine CallsL_of func21 rfl ntmps21 rfl ?_
  try dsimp only [initE, Nat.zero_add]
  refine W_seq fun K1 hK1 => ?_; refine W_region ?_; refine xa rfl rfl ?_; refine WO_nil (sq_n (hK1 _ _ ?_)); refine W_seq fun K2 hK2 => ?_; refine W_seq fun K3 hK3 => ?_; refine W_draw mixed ?_; refine WA_k (fuel := 0) [0,1,2,3,4,5,6,7,8,9] rfl (by kernel_rfl) ?_; refine ym rfl rfl rfl ?_; refine yp rfl (v_nil rfl rfl) rfl ?_; refine yp rfl (v_fa (q := 1) rfl underlying77 rfl rfl sizeOf2 rfl) rfl ?_; refine yv rfl (ld rfl rfl isAgg2) rfl ?_; refine ym rfl rfl rfl ?_; refine yp rfl (v_nil rfl rfl) rfl ?_; refine yp rfl (v_fa (q := 0) rfl underlying77 rfl rfl sizeOf22 rfl) rfl ?_; refine yv rfl (ld rfl rfl isAgg22) rfl ?_; refine yp rfl (v_len rfl underlying22 rfl) rfl ?_; refine yp rfl (n_ge rfl rfl rfl) rfl ?_; refine WK_nil ?_; refine WA_nil (by kernel_rfl) (sq_n (hK3 _ _ ?_)); refine W.keep [0,2,12] rfl ?_; refine W_cond rfl (fun hc0 => ?_) (fun hc0 => ?_)
  · replace hc0 := of_decide_eq_true hc0; refine W_seq fun K4 hK4 => ?_; refine W_region ?_; refine xa rfl rfl ?_; refine WO_nil (sq_n (hK4 _ _ ?_)); refine W_ret (sq_r (ret_of (v := _) rfl ?_)); obtain rfl : i = S.length := by omega
    exact ⟨by simp, rfl⟩
  · replace hc0 := of_decide_eq_false hc0; refine W_skip (sq_n (hK2 _ _ ?_)); refine W_seq fun K5 hK5 => ?_; refine W_draw mixed ?_; refine WA_k (fuel := 0) [0,1,2,3,4,5,6,7,8,9,10] rfl (by kernel_rfl) ?_; refine ym rfl rfl rfl ?_; refine yp rfl (v_nil rfl rfl) rfl ?_; refine yp rfl (v_fa (q := 0) rfl underlying77 rfl rfl sizeOf22 rfl) rfl ?_; refine yv rfl (ld rfl rfl isAgg22) rfl ?_; refine yp rfl (v_len rfl underlying22 rfl) rfl ?_; refine ym rfl rfl rfl ?_; refine yp rfl (v_nil rfl rfl) rfl ?_; refine yp rfl (v_fa (q := 1) rfl underlying77 rfl rfl sizeOf2 rfl) rfl ?_; refine yv rfl (ld rfl rfl isAgg2) rfl ?_; refine yp rfl (n_sub rfl rfl rfl kI (by omega) (by omega)) rfl ?_; refine yp rfl (v_as rfl rfl) rfl ?_; refine WK_nil ?_; refine WA_nil (by kernel_rfl) (sq_n (hK5 _ _ ?_)); refine W.keep [2] rfl ?_; refine W_ret (ret_of (v := _) rfl ?_); exact ⟨rfl, rfl⟩
theorem newReader_spec : CallsL Tryz.prog 17 #[.slice p S.length cap] D fun v H' => ∃ k, v = .pointer (some ⟨k, 0, none⟩) ∧ H' = (k, srcO (.slice p S.length cap) 0 (.int .i64 (-1))) :: D := by
  refine CallsL_of func17 rfl ntmps17 rfl ?_
  try dsimp only [initE, Nat.zero_add]
  refine W_seq fun K1 hK1 => ?_; refine W_region ?_; refine xa rfl rfl ?_; refine WO_nil (sq_n (hK1 _ _ ?_)); refine W_seq fun K2 hK2 => ?_; refine W_region ?_; refine xm rfl rfl ?_; refine xp (v_any (.agg #[.slice p S.length cap, .int .i64 0, .int .i64 (-1)]) rfl rfl (by intro w; kernel_rfl)) rfl ?_; refine wf (v_bxa rfl rfl) rfl rfl rfl ?_; intro k _; refine xa rfl rfl ?_; refine WO_nil (sq_n (hK2 _ _ ?_)); refine W.keep [2] rfl ?_; refine W_ret (ret_of (v := _) rfl ?_); exact ⟨k, rfl, rfl⟩
/-- noEOF -/
theorem noEOF_eof (hG : GD D eof shb uex hdr dic chk) : CallsL Tryz.prog 74 #[errV eof] D fun v H' => v = errV uex ∧ H' = D := by
  obtain ⟨_, _, _, hg0⟩ := hG.g0; obtain ⟨_, _, _, hg4⟩ := hG.g4; refine CallsL_of func74 rfl ntmps74 rfl ?_
  try dsimp only [initE, Nat.zero_add]
  refine W_seq fun K1 hK1 => ?_; refine W_region ?_; refine xa rfl rfl ?_; refine WO_nil (sq_n (hK1 _ _ ?_)); refine W_seq fun K2 hK2 => ?_; refine W_seq fun K3 hK3 => ?_; refine W_region ?_; refine xm rfl rfl ?_; refine xv (ld rfl rfl isAgg47) rfl ?_; refine xp (v_eqs rfl rfl rfl) rfl ?_; refine WO_nil (sq_n (hK3 _ _ ?_)); refine W_cond_t rfl ?_; refine W_seq fun K4 hK4 => ?_; refine W_region ?_; refine xv (ld rfl rfl isAgg47) rfl ?_; refine xa rfl rfl ?_; refine WO_nil (sq_n (hK4 _ _ ?_)); refine W.keep [0,2] rfl ?_; refine W_ret (sq_r (ret_of (v := _) rfl ?_)); exact ⟨rfl, rfl⟩
theorem noEOF_uex (hG : GD D eof shb uex hdr dic chk) : CallsL Tryz.prog 74 #[errV uex] D fun v H' => v = errV uex ∧ H' = D := by
  obtain ⟨_, _, _, hg0⟩ := hG.g0; obtain ⟨_, _, _, h1⟩ := hG.bl eof (by simp); obtain ⟨_, _, _, h2⟩ := hG.bl uex (by simp); have hne : uex ≠ eof := by intro e; have := hG.ne; subst e; simp at this
  refine CallsL_of func74 rfl ntmps74 rfl ?_
  try dsimp only [initE, Nat.zero_add]
  refine W_seq fun K1 hK1 => ?_; refine W_region ?_; refine xa rfl rfl ?_; refine WO_nil (sq_n (hK1 _ _ ?_)); refine W_seq fun K2 hK2 => ?_; refine W_seq fun K3 hK3 => ?_; refine W_region ?_; refine xm rfl rfl ?_; refine xv (ld rfl rfl isAgg47) rfl ?_; refine xv (v_eqo rfl rfl rfl hne h2 h1) rfl ?_; refine WO_nil (sq_n (hK3 _ _ ?_)); refine W_cond_f rfl ?_; refine W_skip (sq_n (hK2 _ _ ?_)); refine W.keep [0,2] rfl ?_; refine W_seq fun K4 hK4 => ?_; refine W_region ?_; refine xm rfl rfl ?_; refine xa rfl rfl ?_; refine WO_nil (sq_n (hK4 _ _ ?_)); refine W_ret (ret_of (v := _) rfl ?_); exact ⟨rfl, rfl⟩
end
end Go.Proofs.YtpbahgddoamhgaaGreatDoor
namespace Go.Proofs.YtpbahgddoamhgaaGreatDoor.Pu

/-- n bits from P on, the first one the lowest -/
def bitsv (B : List Nat) (P : Nat) : Nat → Nat
  | 0 => 0
  | n + 1 => bitsv B P n + bitAt B (P + n) * 2 ^ n
theorem bitsv_lt (B : List Nat) (P n : Nat) : bitsv B P n < 2 ^ n := by
  induction n with
  | zero => simp [bitsv]
  | succ n ih =>
    have h2 : bitAt B (P + n) * 2 ^ n ≤ 1 * 2 ^ n := Nat.mul_le_mul_right _ (by have := bitAt_lt B (P + n); omega); rw [bitsv, Nat.pow_succ]; omega
theorem bitsv_add (B : List Nat) (P n : Nat) : ∀ m, bitsv B P (n + m) = bitsv B P n + bitsv B (P + n) m * 2 ^ n
  | 0 => by simp [bitsv]
  | m + 1 => by
    rw [← Nat.add_assoc, bitsv, bitsv_add B P n m, bitsv, Nat.add_mul, Nat.add_assoc, Nat.add_assoc P n m, Nat.pow_add]; congr 2; rw [Nat.mul_assoc, Nat.mul_comm (2 ^ n)]
theorem bitsv_mod (B : List Nat) (P n m : Nat) : bitsv B P (n + m) % 2 ^ n = bitsv B P n := by
  rw [bitsv_add, Nat.add_mul_mod_self_right, Nat.mod_eq_of_lt (bitsv_lt _ _ _)]
theorem bitsv_div (B : List Nat) (P n m : Nat) : bitsv B P (n + m) / 2 ^ n = bitsv B (P + n) m := by
  rw [bitsv_add, Nat.add_mul_div_right _ _ (Nat.two_pow_pos n), Nat.div_eq_of_lt (bitsv_lt _ _ _), Nat.zero_add]
theorem bitsv_mod' {B : List Nat} {P n nb : Nat} (h : n ≤ nb) : bitsv B P nb % 2 ^ n = bitsv B P n := by
  have := bitsv_mod B P n (nb - n); rwa [Nat.add_sub_cancel' h] at this
theorem bitsv_div' {B : List Nat} {P n nb : Nat} (h : n ≤ nb) : bitsv B P nb / 2 ^ n = bitsv B (P + n) (nb - n) := by
  have := bitsv_div B P n (nb - n); rwa [Nat.add_sub_cancel' h] at this
theorem bitAt_byte (B : List Nat) (j i : Nat) (h : i < 8) : bitAt B (8 * j + i) = B.getD j 0 / 2 ^ i % 2 := by
  unfold bitAt; rw [show (8 * j + i) / 8 = j by omega, show (8 * j + i) % 8 = i by omega]
theorem bitsv_byte_aux (B : List Nat) (j : Nat) : ∀ n, n ≤ 8 → bitsv B (8 * j) n = B.getD j 0 % 2 ^ n
  | 0, _ => by simp [bitsv, Nat.mod_one]
  | n + 1, h => by
    rw [bitsv, bitsv_byte_aux B j n (by omega), bitAt_byte B j n (by omega), Nat.mod_pow_succ, Nat.mul_comm (2 ^ n)]
theorem bitsv_byte (B : List Nat) (j : Nat) (h : B.getD j 0 < 256) : bitsv B (8 * j) 8 = B.getD j 0 := by
  rw [bitsv_byte_aux B j 8 (Nat.le_refl _)]; exact Nat.mod_eq_of_lt h
theorem rbits_eq {B : List Nat} {P : Nat} : ∀ {n : Nat}, P + n ≤ 8 * B.length → rbits B n ⟨P, false⟩ = (bitsv B P n, ⟨P + n, false⟩)
  | 0, _ => rfl
  | n + 1, h => by
    rw [rbits, rbits_eq (n := n) (by omega)]; simp only [rbit, Bool.false_eq_true, if_false]; rw [if_neg (by omega)]; rfl
theorem rbits_short {B : List Nat} {P : Nat} : ∀ {n : Nat}, 8 * B.length < P + n → P ≤ 8 * B.length → (rbits B n ⟨P, false⟩).2.fail = true
  | 0, h, h2 => by omega
  | n + 1, h, h2 => by
    rcases Nat.lt_or_ge (8 * B.length) (P + n) with h1 | h1
    · have := rbits_short (n := n) h1 h2; rw [rbits]; unfold rbit; rw [if_pos this]
    · rw [rbits, rbits_eq h1]; simp only [rbit, Bool.false_eq_true, if_false]; rw [if_pos (by omega)]
end Go.Proofs.YtpbahgddoamhgaaGreatDoor.Pu
