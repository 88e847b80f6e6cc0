/- Part 7 of 11 of the proof: the executor, the walks and the plain laws, in build order. -/
import Derived.Test.YtpbahgddoamhgaaGreatDoorQf
namespace Go.Proofs.YtpbahgddoamhgaaGreatDoor
open Go.Proofs.Tryz
open Go Sx Pu
set_option maxRecDepth 10000

namespace Pu
def rlen (L : List Nat) (i : Nat) : Nat → Nat → Nat
  | 0, n => n
  | k + 1, n => if i + n < L.length ∧ L.getD (i + n) 0 = L.getD i 0 then rlen L i k (n + 1) else n
def rq (c : Bool) (V : List Int) (a : Nat) : Bool × Nat := if c = true then (decide (0 < nxt V a 3), a + 1) else (false, a)
def rstep3 (L : List Nat) (V : List Int) (i m : Nat) (q : Bool × Nat) : T3 × Nat × Nat := if q.1 = true then ((16, min m 6 - 3, 2), min m 6, q.2) else ((L.getD i 0, 0, 0), 1, q.2)
def rq3 (L : List Nat) (V : List Int) (i m a : Nat) : Bool × Nat := rq (decide (0 < i ∧ L.getD i 0 = L.getD (i - 1) 0 ∧ 3 ≤ m)) V a
def rstep2 (L : List Nat) (V : List Int) (i m : Nat) (q : Bool × Nat) : T3 × Nat × Nat := if q.1 = true then ((17, min m 10 - 3, 3), min m 10, q.2) else rstep3 L V i m (rq3 L V i m q.2)
def rq2 (L : List Nat) (V : List Int) (i m a : Nat) : Bool × Nat := rq (decide (L.getD i 0 = 0 ∧ 3 ≤ m)) V a
def rstep1 (L : List Nat) (V : List Int) (i m : Nat) (q : Bool × Nat) : T3 × Nat × Nat := if q.1 = true then ((18, min m 138 - 11, 7), min m 138, q.2) else rstep2 L V i m (rq2 L V i m q.2)
def rq1 (L : List Nat) (V : List Int) (i m a : Nat) : Bool × Nat := rq (decide (L.getD i 0 = 0 ∧ 11 ≤ m)) V a
def rstep (L : List Nat) (V : List Int) (i a : Nat) : T3 × Nat × Nat := rstep1 L V i (rlen L i L.length 1) (rq1 L V i (rlen L i L.length 1) a)
def rruns (L : List Nat) (V : List Int) : Nat → Nat → Nat → List T3 × Nat
  | 0, _, a => ([], a)
  | k + 1, i, a => if i < L.length then ((rstep L V i a).1 :: (rruns L V k (i + (rstep L V i a).2.1) (rstep L V i a).2.2).1, (rruns L V k (i + (rstep L V i a).2.1) (rstep L V i a).2.2).2) else ([], a)
theorem rlen_bd {L : List Nat} {i : Nat} : ∀ k n, i + n ≤ L.length → n ≤ rlen L i k n ∧ i + rlen L i k n ≤ L.length
  | 0, n, h => ⟨Nat.le_refl _, h⟩
  | k + 1, n, h => by
    rw [rlen]; split
    · rename_i h1
      have := rlen_bd (L := L) (i := i) k (n + 1) (by omega); omega
    · exact ⟨Nat.le_refl _, h⟩
theorem rq_bd (c : Bool) (V : List Int) (a : Nat) : a ≤ (rq c V a).2 ∧ (rq c V a).2 ≤ a + 1 ∧ ((rq c V a).1 = true → c = true) := by
  unfold rq; split
  · rename_i h; exact ⟨by simp only; omega, Nat.le_refl _, fun _ => h⟩
  · exact ⟨Nat.le_refl _, by simp only; omega, fun h => by cases h⟩
def RunOk (t : T3) : Prop := t.1 ≤ 18 ∧ t.2.1 ≤ 127 ∧ t.2.2 ≤ 7
theorem rstep_ok {L : List Nat} (h15 : ∀ x ∈ L, x ≤ 15) (V : List Int) (i a : Nat) (hi : i < L.length) : RunOk (rstep L V i a).1 ∧ 1 ≤ (rstep L V i a).2.1 ∧ i + (rstep L V i a).2.1 ≤ L.length ∧ a ≤ (rstep L V i a).2.2 ∧ (rstep L V i a).2.2 ≤ a + 3 := by
  have hb := rlen_bd (L := L) (i := i) L.length 1 (by omega); have hx := getD_le h15 i; unfold rstep; generalize rlen L i L.length 1 = m at *; unfold rstep1; have h1 := rq_bd (decide (L.getD i 0 = 0 ∧ 11 ≤ m)) V a; change _ ≤ (rq1 L V i m a).2 ∧ (rq1 L V i m a).2 ≤ _ ∧ _ at h1
  split
  · rename_i hq
    have := of_decide_eq_true (h1.2.2 hq); exact ⟨⟨by simp only; omega, by simp only; omega, by simp only; omega⟩, by simp only; omega, by simp only; omega, by simp only; omega, by simp only; omega⟩
  · unfold rstep2; have h2 := rq_bd (decide (L.getD i 0 = 0 ∧ 3 ≤ m)) V (rq1 L V i m a).2; change _ ≤ (rq2 L V i m _).2 ∧ (rq2 L V i m _).2 ≤ _ ∧ _ at h2
    split
    · rename_i hq
      have := of_decide_eq_true (h2.2.2 hq); exact ⟨⟨by simp only; omega, by simp only; omega, by simp only; omega⟩, by simp only; omega, by simp only; omega, by simp only; omega, by simp only; omega⟩
    · unfold rstep3; have h3 := rq_bd (decide (0 < i ∧ L.getD i 0 = L.getD (i - 1) 0 ∧ 3 ≤ m)) V (rq2 L V i m (rq1 L V i m a).2).2; change _ ≤ (rq3 L V i m _).2 ∧ (rq3 L V i m _).2 ≤ _ ∧ _ at h3
      split
      · rename_i hq
        have := of_decide_eq_true (h3.2.2 hq); exact ⟨⟨by simp only; omega, by simp only; omega, by simp only; omega⟩, by simp only; omega, by simp only; omega, by simp only; omega, by simp only; omega⟩
      · exact ⟨⟨by simp only; omega, by simp only; omega, by simp only; omega⟩, by simp only; omega, by simp only; omega, by simp only; omega, by simp only; omega⟩
theorem rruns_ok {L : List Nat} (h15 : ∀ x ∈ L, x ≤ 15) (V : List Int) : ∀ k i a, i ≤ L.length → (∀ t ∈ (rruns L V k i a).1, RunOk t) ∧ (rruns L V k i a).1.length ≤ L.length - i ∧ a ≤ (rruns L V k i a).2 ∧ (rruns L V k i a).2 ≤ a + 3 * (L.length - i)
  | 0, i, a, _ => ⟨by simp [rruns], by simp [rruns], Nat.le_refl _, by simp [rruns]⟩
  | k + 1, i, a, hi => by
    rw [rruns]; split
    · rename_i h
      obtain ⟨h1, h2, h3, h4, h5⟩ := rstep_ok h15 V i a h; obtain ⟨g1, g2, g3, g4⟩ := rruns_ok h15 V k _ (rstep L V i a).2.2 h3; refine ⟨fun t ht => ?_, ?_, ?_, ?_⟩
      · rcases List.mem_cons.1 ht with rfl | ht
        · exact h1
        · exact g1 t ht
      · simp only [List.length_cons]; omega
      · simp only; omega
      · simp only; omega
    · exact ⟨by simp, by simp, Nat.le_refl _, by simp only; omega⟩
end Pu
section
variable {D : Hl} {cb at_ capl capL : Nat} {pl pL : Option Addr} {V : List Int} {L : List Nat}
set_option maxHeartbeats 4000000 in
theorem runs_spec (hd : DatI pL L D) (hL : L.length ≤ 400) (h15 : ∀ x ∈ L, x ≤ 15) (hz : DatZ pl V D) (hV : ZW V) (hvl : V.length < 2 ^ 62) (ha : at_ < 2 ^ 60) :
    CallsL Tryz.prog 49 #[.slice pL L.length capL, .pointer (some ⟨cb, 0, none⟩)] ((cb, chO pl V.length capl at_) :: D) fun v H' => ∃ p2 c2 Hs, v = .slice p2 (rruns L V L.length 0 at_).1.length c2 ∧ OwnT 110 p2 c2 (rruns L V L.length 0 at_).1 Hs ∧
      H' = Hs ++ ((cb, chO pl V.length capl (rruns L V L.length 0 at_).2) :: D) := by
  obtain ⟨T, a1, hT, hT2⟩ : ∃ T a1, (rruns L V L.length 0 at_).1 = T ∧ (rruns L V L.length 0 at_).2 = a1 := ⟨_, _, rfl, rfl⟩; rw [hT, hT2]; refine CallsL_of func49 rfl ntmps49 rfl ?_; try dsimp only [initE, Nat.zero_add]
  refine W_seq fun K1 hK1 => ?_; refine W_region ?_; refine xa rfl rfl ?_; refine WO_nil (sq_n (hK1 _ _ ?_)); refine W_seq fun K2 hK2 => ?_; refine W_region ?_; refine xa rfl rfl ?_; refine WO_nil (sq_n (hK2 _ _ ?_)); refine W_seq fun K3 hK3 => ?_; refine W_seq fun K4 hK4 => ?_; refine W_region ?_; refine xa rfl rfl ?_; refine WO_nil (sq_n (hK4 _ _ ?_)); refine W_block ?_
  refine W_loop (fun m E H => ∃ i a out k p2 c2 Hs, i ≤ L.length ∧ m = L.length - i ∧ L.length ≤ k + i ∧ a ≤ at_ + 3 * i ∧ out.length ≤ i ∧ out ++ (rruns L V k i a).1 = T ∧ (rruns L V k i a).2 = a1 ∧ OwnT 110 p2 c2 out Hs ∧ Sub E [(0, .slice pL L.length capL), (1, .pointer (some ⟨cb, 0, none⟩)), (5, .slice p2 out.length c2), (6, iV i)] ∧ H = Hs ++ ((cb, chO pl V.length capl (a)) :: D)) (m := _) (⟨0, at_, [], L.length, none, 0, [], Nat.zero_le _, rfl, Nat.le_refl _, by omega, by simp, hT, hT2, OwnT.nil, ⟨rfl, rfl, rfl, rfl, trivial⟩, rfl⟩) ?_
  clear hT hT2; rintro m E H ⟨i, a, out, k, p2, c2, Hs, hi, rfl, hk, haa, hol, hT, hT2, hO, hE, rfl⟩; refine W.env hE ?_; refine W_seq fun K5 hK5 => ?_; refine W_seq fun K6 hK6 => ?_; refine W_region ?_; refine xm rfl rfl ?_; refine xm rfl rfl ?_; refine xp (v_len rfl underlying23 rfl) rfl ?_; refine xp (n_lt rfl rfl rfl) rfl ?_; refine WO_nil (sq_n (hK6 _ _ ?_)); refine W_cond rfl (fun hc0 => ?_) (fun hc0 => ?_)
  · replace hc0 := of_decide_eq_true hc0; obtain ⟨k, rfl⟩ : ∃ j, k = j + 1 := ⟨k - 1, by omega⟩; rw [rruns, if_pos hc0] at hT hT2; dsimp only at hT hT2; obtain ⟨b2, off, c, ty, fz, r, rfl, hat, hcc⟩ := hd (by intro e; subst e; simp at hc0); have hga : ∀ j, j < L.length → c[off + j]? = some (iV (L.getD j 0)) := fun j hj => by rw [hcc j hj, getD_in hj]
    have hgi := getD_le h15 i; refine W_skip (sq_n (hK5 _ _ ?_)); refine W_block ?_; refine W_seq fun K7 hK7 => ?_; refine W_region ?_; refine xa rfl rfl ?_; refine WO_nil (sq_n (hK7 _ _ ?_))
    refine W_seq_mid (fun E H => ∃ nn, 1 ≤ nn ∧ i + nn ≤ L.length ∧ rlen L i L.length 1 = nn ∧ Sub E [(0, .slice (some ⟨b2, off, none⟩) L.length capL), (1, .pointer (some ⟨cb, 0, none⟩)), (5, .slice p2 out.length c2), (6, iV i), (7, iV nn)] ∧ H = Hs ++ ((cb, chO pl V.length capl (a)) :: D)) ?_ ?_
    · skip
      refine W_block ?_
      refine W_loop (fun m E H => ∃ nn, 1 ≤ nn ∧ i + nn ≤ L.length ∧ m = L.length - nn ∧ rlen L i (L.length + 1 - nn) nn = rlen L i L.length 1 ∧ Sub E [(0, .slice (some ⟨b2, off, none⟩) L.length capL), (1, .pointer (some ⟨cb, 0, none⟩)), (5, .slice p2 out.length c2), (6, iV i), (7, iV nn)] ∧ H = Hs ++ ((cb, chO pl V.length capl (a)) :: D)) (m := _) (⟨1, Nat.le_refl _, by omega, rfl, rfl, ⟨rfl, rfl, rfl, rfl, rfl, trivial⟩, rfl⟩) ?_
      rintro m E H ⟨nn, hn1, hin, rfl, hml, hE, rfl⟩; refine W.env hE ?_; refine W_seq fun K9 hK9 => ?_; refine W_seq fun K10 hK10 => ?_; by_cases hl2 : i + nn < L.length
      · skip
        by_cases hl3 : L.getD (i + nn) 0 = L.getD i 0
        · skip
          refine W_draw mixed ?_; refine WA_k (fuel := 0) [0,1,2,3,4,5,6,7,8,9,10,11,12,13,14,15,16,17,18] rfl (by kernel_rfl) ?_; refine ym rfl rfl rfl ?_; refine ym rfl rfl rfl ?_; refine yp rfl (n_add rfl rfl rfl kI (by omega)) rfl ?_; refine ym rfl rfl rfl ?_; refine yp rfl (v_len rfl underlying23 rfl) rfl ?_; refine yp rfl (v_lt rfl rfl rfl (dT (by omega))) rfl ?_; refine ym rfl rfl rfl ?_
          refine ym rfl rfl rfl ?_; refine ym rfl rfl rfl ?_; refine ym rfl rfl rfl ?_; refine yp rfl (n_add rfl rfl rfl kI (by omega)) rfl ?_; refine yp rfl (v_ixs rfl underlying23 sizeOf3 rfl rfl (by omega)) rfl ?_; refine yv rfl (v_ld rfl rfl isAgg3 (hga _ (by omega))) rfl ?_; refine ym rfl rfl rfl ?_; refine ym rfl rfl rfl ?_; refine yp rfl (v_ixs rfl underlying23 sizeOf3 rfl rfl (by omega)) rfl ?_
          refine yv rfl (v_ld rfl rfl isAgg3 (hga _ (by omega))) rfl ?_; refine yp rfl (v_eq rfl rfl rfl (dT (by rw [hl3]))) rfl ?_; refine yp rfl (v_pt rfl rfl rfl) rfl ?_; refine WK_nil ?_; refine WA_nil (by kernel_rfl) (sq_n (hK10 _ _ ?_)); refine W_cond_t rfl ?_; refine W_skip (sq_n (hK9 _ _ ?_)); refine W_block ?_; refine W_region ?_; refine xm rfl rfl ?_; refine xp (n_add rfl rfl rfl kI (by omega)) rfl ?_
          refine xa rfl rfl ?_; refine WO_nil (bl_n (sq_n (?_))); refine ⟨L.length - (nn + 1), by omega, nn + 1, by omega, by omega, rfl, ?_, ⟨rfl, rfl, rfl, rfl, rfl, trivial⟩, rfl⟩; rw [show L.length + 1 - nn = (L.length + 1 - (nn + 1)) + 1 by omega, rlen, if_pos ⟨hl2, hl3⟩] at hml; exact hml
        · have hml2 : rlen L i L.length 1 = nn := by rw [← hml, show L.length + 1 - nn = (L.length - nn) + 1 by omega, rlen, if_neg (fun h => hl3 h.2)]
          refine W_draw mixed ?_; refine WA_k (fuel := 0) [0,1,2,3,4,5,6,7,8,9,10,11,12,13,14,15,16,17,18] rfl (by kernel_rfl) ?_; refine ym rfl rfl rfl ?_; refine ym rfl rfl rfl ?_; refine yp rfl (n_add rfl rfl rfl kI (by omega)) rfl ?_; refine ym rfl rfl rfl ?_; refine yp rfl (v_len rfl underlying23 rfl) rfl ?_; refine yp rfl (v_lt rfl rfl rfl (dT (by omega))) rfl ?_; refine ym rfl rfl rfl ?_
          refine ym rfl rfl rfl ?_; refine ym rfl rfl rfl ?_; refine ym rfl rfl rfl ?_; refine yp rfl (n_add rfl rfl rfl kI (by omega)) rfl ?_; refine yp rfl (v_ixs rfl underlying23 sizeOf3 rfl rfl (by omega)) rfl ?_; refine yv rfl (v_ld rfl rfl isAgg3 (hga _ (by omega))) rfl ?_; refine ym rfl rfl rfl ?_; refine ym rfl rfl rfl ?_; refine yp rfl (v_ixs rfl underlying23 sizeOf3 rfl rfl (by omega)) rfl ?_
          refine yv rfl (v_ld rfl rfl isAgg3 (hga _ (by omega))) rfl ?_; refine yp rfl (v_eq rfl rfl rfl (dF (fun e => hl3 (by exact_mod_cast e)))) rfl ?_; refine yp rfl (v_pt rfl rfl rfl) rfl ?_; refine WK_nil ?_; refine WA_nil (by kernel_rfl) (sq_n (hK10 _ _ ?_)); refine W_cond_f rfl ?_; refine W_exit (sq_x (sq_x (bl_x (sq_n (?_))))); exact ⟨nn, hn1, hin, hml2, ⟨rfl, rfl, rfl, rfl, rfl, trivial⟩, rfl⟩
      · have hml2 : rlen L i L.length 1 = nn := by rw [← hml, show L.length + 1 - nn = (L.length - nn) + 1 by omega, rlen, if_neg (fun h => hl2 h.1)]
        refine W_draw mixed ?_; refine WA_k (fuel := 0) [0,1,2,3,4,5,6,7,8,9,10,11,12,13,14,15,16,17,18] rfl (by kernel_rfl) ?_; refine ym rfl rfl rfl ?_; refine ym rfl rfl rfl ?_; refine yp rfl (n_add rfl rfl rfl kI (by omega)) rfl ?_; refine ym rfl rfl rfl ?_; refine yp rfl (v_len rfl underlying23 rfl) rfl ?_; refine yp rfl (v_lt rfl rfl rfl (dF (by omega))) rfl ?_; refine ym rfl rfl rfl ?_; refine yno rfl rfl ?_
        refine yno rfl rfl ?_; refine yno rfl rfl ?_; refine yno rfl rfl ?_; refine yno rfl rfl ?_; refine yno rfl rfl ?_; refine yno rfl rfl ?_; refine yno rfl rfl ?_; refine yno rfl rfl ?_; refine yno rfl rfl ?_; refine yno rfl rfl ?_; refine yp rfl (v_pf rfl rfl rfl) rfl ?_; refine WK_nil ?_; refine WA_nil (by kernel_rfl) (sq_n (hK10 _ _ ?_)); refine W_cond_f rfl ?_; refine W_exit (sq_x (sq_x (bl_x (sq_n (?_)))))
        exact ⟨nn, hn1, hin, hml2, ⟨rfl, rfl, rfl, rfl, rfl, trivial⟩, rfl⟩
    · rintro E H ⟨nn, hn1, hin, hml2, hE, rfl⟩; refine W.env hE ?_; refine W_seq_mid (fun E H => ∃ p3 c3 Hs3, OwnT 110 p3 c3 (out ++ [(rstep L V i a).1]) Hs3 ∧ Sub E [(0, .slice (some ⟨b2, off, none⟩) L.length capL), (1, .pointer (some ⟨cb, 0, none⟩)), (5, .slice p3 (out ++ [(rstep L V i a).1]).length c3), (6, iV i), (7, iV (rstep L V i a).2.1)] ∧ H = Hs3 ++ ((cb, chO pl V.length capl (rstep L V i a).2.2) :: D)) ?_ ?_
      · skip
        refine W_block ?_; refine W_seq_mid (fun E H => ∃ Q, Q = rq1 L V i nn a ∧ Q.2 ≤ a + 1 ∧ Sub E [(0, .slice (some ⟨b2, off, none⟩) L.length capL), (1, .pointer (some ⟨cb, 0, none⟩)), (5, .slice p2 out.length c2), (6, iV i), (7, iV nn), (41, .bool Q.1)] ∧ H = Hs ++ ((cb, chO pl V.length capl (Q.2)) :: D)) ?_ ?_
        · skip
          by_cases hz0 : L.getD i 0 = 0
          · skip
            by_cases h11 : 11 ≤ nn
            · have hQ : rq1 L V i nn a = (decide (0 < nxt V a 3), a + 1) := by unfold rq1 rq; rw [if_pos (decide_eq_true ⟨hz0, h11⟩)]
              refine W_region ?_; refine xm rfl rfl ?_; refine xm rfl rfl ?_; refine xp (v_ixs rfl underlying23 sizeOf3 rfl rfl (by omega)) rfl ?_; refine xv (v_ld rfl rfl isAgg3 (hga i hc0)) rfl ?_; refine xp (v_eq rfl rfl rfl (dT (by omega))) rfl ?_; refine xm rfl rfl ?_; refine xm rfl rfl ?_; refine xp (v_ge rfl rfl rfl (dT (by omega))) rfl ?_; refine xp (v_pt rfl rfl rfl) rfl ?_; refine xm rfl rfl ?_
              refine xm rfl rfl ?_; refine wc (e_c rfl rfl rfl call30) rfl rfl rfl (next_spec hz hV (by decide) (by decide) (by omega) hvl) .behind ?_; rintro _ _ ⟨rfl, rfl⟩; (try simp only [ap4]); refine xp (n_gt rfl rfl rfl) rfl ?_; refine xp (v_pt rfl rfl rfl) rfl ?_; refine xa rfl rfl ?_; refine WO_nil (sq_n (?_)); exact ⟨_, hQ.symm, by simp only; omega, ⟨rfl, rfl, rfl, rfl, rfl, rfl, trivial⟩, rfl⟩
            · have hQ : rq1 L V i nn a = (false, a) := by unfold rq1 rq; rw [if_neg (by rw [decide_eq_true_eq]; exact fun h => h11 h.2)]
              refine W_region ?_; refine xm rfl rfl ?_; refine xm rfl rfl ?_; refine xp (v_ixs rfl underlying23 sizeOf3 rfl rfl (by omega)) rfl ?_; refine xv (v_ld rfl rfl isAgg3 (hga i hc0)) rfl ?_; refine xp (v_eq rfl rfl rfl (dT (by omega))) rfl ?_; refine xm rfl rfl ?_; refine xm rfl rfl ?_; refine xp (v_ge rfl rfl rfl (dF (by omega))) rfl ?_; refine xp (v_pt rfl rfl rfl) rfl ?_; refine xm rfl rfl ?_
              refine xno rfl ?_; refine xno rfl ?_; refine xno rfl ?_; refine xp (v_pf rfl rfl rfl) rfl ?_; refine xa rfl rfl ?_; refine WO_nil (sq_n (?_)); exact ⟨_, hQ.symm, by simp only; omega, ⟨rfl, rfl, rfl, rfl, rfl, rfl, trivial⟩, rfl⟩
          · have hQ : rq1 L V i nn a = (false, a) := by unfold rq1 rq; rw [if_neg (by rw [decide_eq_true_eq]; exact fun h => hz0 h.1)]
            refine W_region ?_; refine xm rfl rfl ?_; refine xm rfl rfl ?_; refine xp (v_ixs rfl underlying23 sizeOf3 rfl rfl (by omega)) rfl ?_; refine xv (v_ld rfl rfl isAgg3 (hga i hc0)) rfl ?_; refine xp (v_eq rfl rfl rfl (dF (by omega))) rfl ?_; refine xm rfl rfl ?_; refine xno rfl ?_; refine xno rfl ?_; refine xp (v_pf rfl rfl rfl) rfl ?_; refine xm rfl rfl ?_; refine xno rfl ?_; refine xno rfl ?_
            refine xno rfl ?_; refine xp (v_pf rfl rfl rfl) rfl ?_; refine xa rfl rfl ?_; refine WO_nil (sq_n (?_)); exact ⟨_, hQ.symm, by simp only; omega, ⟨rfl, rfl, rfl, rfl, rfl, rfl, trivial⟩, rfl⟩
        · rintro E H ⟨⟨q1, a1x⟩, hQ, hq1a, hE, rfl⟩; refine W.env hE ?_; dsimp only at hq1a ⊢; refine W_cond rfl (fun hc2 => ?_) (fun hc2 => ?_)
          · subst hc2
            have hrs : rstep L V i a = ((18, min nn 138 - 11, 7), min nn 138, a1x) := by
              unfold rstep; rw [hml2, ← hQ]; rfl
            have h11 : 11 ≤ nn := (of_decide_eq_true ((rq_bd (decide (L.getD i 0 = 0 ∧ 11 ≤ nn)) V a).2.2 (by rw [show rq (decide (L.getD i 0 = 0 ∧ 11 ≤ nn)) V a = (true, a1x) from hQ.symm]))).2; refine W_seq fun K13 hK13 => ?_; refine W_region ?_; refine xm rfl rfl ?_; refine xp (n_min rfl rfl rfl) rfl ?_; refine xa rfl rfl ?_; refine WO_nil (sq_n (hK13 _ _ ?_)); refine W_region ?_; refine xm rfl rfl ?_
            refine xm rfl rfl ?_; refine xp (n_sub rfl rfl rfl kI (by omega) (by omega)) rfl ?_; refine xp (v_any (.agg (List.toArray [iV 18, iV (min nn 138 - 11), iV 7])) rfl rfl (by intro w; kernel_rfl)) rfl ?_
            refine wappT (bytes := 24) (a := 18) (b := (min nn 138 - 11)) (c := 7) underlying107 sizeOf110 typeInfo110 rfl zeroValue110 rfl hO rfl (by omega) (by omega) (v_bs (List.toArray [iV 18, iV (min nn 138 - 11), iV 7]) 110 1 rfl rfl (by intro w; kernel_rfl)) rfl rfl rfl rfl rfl rfl (fun _ => rfl) (fun _ => rfl) ?_; intro vb p3 c3 Hs3 hO3; refine xa rfl rfl ?_; refine WO_nil (bl_n (sq_n (?_))); rw [hrs]
            exact ⟨p3, c3, Hs3, hO3, ⟨rfl, rfl, rfl, rfl, rfl, trivial⟩, rfl⟩
          · subst hc2; refine W_seq_mid (fun E H => ∃ Q, Q = rq2 L V i nn a1x ∧ Q.2 ≤ a + 2 ∧ Sub E [(0, .slice (some ⟨b2, off, none⟩) L.length capL), (1, .pointer (some ⟨cb, 0, none⟩)), (5, .slice p2 out.length c2), (6, iV i), (7, iV nn), (64, .bool Q.1)] ∧ H = Hs ++ ((cb, chO pl V.length capl (Q.2)) :: D)) ?_ ?_
            · skip
              by_cases hz0 : L.getD i 0 = 0
              · skip
                by_cases h3 : 3 ≤ nn
                · have hQ2 : rq2 L V i nn a1x = (decide (0 < nxt V a1x 3), a1x + 1) := by unfold rq2 rq; rw [if_pos (decide_eq_true ⟨hz0, h3⟩)]
                  refine W_region ?_; refine xm rfl rfl ?_; refine xm rfl rfl ?_; refine xp (v_ixs rfl underlying23 sizeOf3 rfl rfl (by omega)) rfl ?_; refine xv (v_ld rfl rfl isAgg3 (hga i hc0)) rfl ?_; refine xp (v_eq rfl rfl rfl (dT (by omega))) rfl ?_; refine xm rfl rfl ?_; refine xm rfl rfl ?_; refine xp (v_ge rfl rfl rfl (dT (by omega))) rfl ?_; refine xp (v_pt rfl rfl rfl) rfl ?_; refine xm rfl rfl ?_
                  refine xm rfl rfl ?_; refine wc (e_c rfl rfl rfl call30) rfl rfl rfl (next_spec hz hV (by decide) (by decide) (by omega) hvl) .behind ?_; rintro _ _ ⟨rfl, rfl⟩; (try simp only [ap4]); refine xp (n_gt rfl rfl rfl) rfl ?_; refine xp (v_pt rfl rfl rfl) rfl ?_; refine xa rfl rfl ?_; refine WO_nil (sq_n (?_)); exact ⟨_, hQ2.symm, by simp only; omega, ⟨rfl, rfl, rfl, rfl, rfl, rfl, trivial⟩, rfl⟩
                · have hQ2 : rq2 L V i nn a1x = (false, a1x) := by unfold rq2 rq; rw [if_neg (by rw [decide_eq_true_eq]; exact fun h => h3 h.2)]
                  refine W_region ?_; refine xm rfl rfl ?_; refine xm rfl rfl ?_; refine xp (v_ixs rfl underlying23 sizeOf3 rfl rfl (by omega)) rfl ?_; refine xv (v_ld rfl rfl isAgg3 (hga i hc0)) rfl ?_; refine xp (v_eq rfl rfl rfl (dT (by omega))) rfl ?_; refine xm rfl rfl ?_; refine xm rfl rfl ?_; refine xp (v_ge rfl rfl rfl (dF (by omega))) rfl ?_; refine xp (v_pt rfl rfl rfl) rfl ?_; refine xm rfl rfl ?_
                  refine xno rfl ?_; refine xno rfl ?_; refine xno rfl ?_; refine xp (v_pf rfl rfl rfl) rfl ?_; refine xa rfl rfl ?_; refine WO_nil (sq_n (?_)); exact ⟨_, hQ2.symm, by simp only; omega, ⟨rfl, rfl, rfl, rfl, rfl, rfl, trivial⟩, rfl⟩
              · have hQ2 : rq2 L V i nn a1x = (false, a1x) := by unfold rq2 rq; rw [if_neg (by rw [decide_eq_true_eq]; exact fun h => hz0 h.1)]
                refine W_region ?_; refine xm rfl rfl ?_; refine xm rfl rfl ?_; refine xp (v_ixs rfl underlying23 sizeOf3 rfl rfl (by omega)) rfl ?_; refine xv (v_ld rfl rfl isAgg3 (hga i hc0)) rfl ?_; refine xp (v_eq rfl rfl rfl (dF (by omega))) rfl ?_; refine xm rfl rfl ?_; refine xno rfl ?_; refine xno rfl ?_; refine xp (v_pf rfl rfl rfl) rfl ?_; refine xm rfl rfl ?_; refine xno rfl ?_; refine xno rfl ?_
                refine xno rfl ?_; refine xp (v_pf rfl rfl rfl) rfl ?_; refine xa rfl rfl ?_; refine WO_nil (sq_n (?_)); exact ⟨_, hQ2.symm, by simp only; omega, ⟨rfl, rfl, rfl, rfl, rfl, rfl, trivial⟩, rfl⟩
            · rintro E H ⟨⟨q2, a2x⟩, hQ2, hq2a, hE, rfl⟩; refine W.env hE ?_; dsimp only at hq2a ⊢; refine W_cond rfl (fun hc3 => ?_) (fun hc3 => ?_)
              · subst hc3
                have hrs : rstep L V i a = ((17, min nn 10 - 3, 3), min nn 10, a2x) := by
                  unfold rstep; rw [hml2, ← hQ]; show rstep2 L V i nn (rq2 L V i nn a1x) = _; rw [← hQ2]; rfl
                have h3 : 3 ≤ nn := (of_decide_eq_true ((rq_bd (decide (L.getD i 0 = 0 ∧ 3 ≤ nn)) V a1x).2.2 (by rw [show rq (decide (L.getD i 0 = 0 ∧ 3 ≤ nn)) V a1x = (true, a2x) from hQ2.symm]))).2; refine W_seq fun K15 hK15 => ?_; refine W_region ?_; refine xm rfl rfl ?_; refine xp (n_min rfl rfl rfl) rfl ?_; refine xa rfl rfl ?_; refine WO_nil (sq_n (hK15 _ _ ?_)); refine W_region ?_; refine xm rfl rfl ?_
                refine xm rfl rfl ?_; refine xp (n_sub rfl rfl rfl kI (by omega) (by omega)) rfl ?_; refine xp (v_any (.agg (List.toArray [iV 17, iV (min nn 10 - 3), iV 3])) rfl rfl (by intro w; kernel_rfl)) rfl ?_
                refine wappT (bytes := 24) (a := 17) (b := (min nn 10 - 3)) (c := 3) underlying107 sizeOf110 typeInfo110 rfl zeroValue110 rfl hO rfl (by omega) (by omega) (v_bs (List.toArray [iV 17, iV (min nn 10 - 3), iV 3]) 110 1 rfl rfl (by intro w; kernel_rfl)) rfl rfl rfl rfl rfl rfl (fun _ => rfl) (fun _ => rfl) ?_; intro vb p3 c3 Hs3 hO3; refine xa rfl rfl ?_; refine WO_nil (bl_n (sq_n (?_))); rw [hrs]
                exact ⟨p3, c3, Hs3, hO3, ⟨rfl, rfl, rfl, rfl, rfl, trivial⟩, rfl⟩
              · subst hc3; refine W_seq_mid (fun E H => ∃ Q, Q = rq3 L V i nn a2x ∧ Q.2 ≤ a + 3 ∧ Sub E [(0, .slice (some ⟨b2, off, none⟩) L.length capL), (1, .pointer (some ⟨cb, 0, none⟩)), (5, .slice p2 out.length c2), (6, iV i), (7, iV nn), (87, .bool Q.1)] ∧ H = Hs ++ ((cb, chO pl V.length capl (Q.2)) :: D)) ?_ ?_
                · skip
                  by_cases hi0 : 0 < i
                  · have hgi2 := getD_le h15 (i - 1); by_cases he : L.getD i 0 = L.getD (i - 1) 0
                    · skip
                      by_cases h3 : 3 ≤ nn
                      · have hQ3 : rq3 L V i nn a2x = (decide (0 < nxt V a2x 3), a2x + 1) := by unfold rq3 rq; rw [if_pos (decide_eq_true ⟨hi0, he, h3⟩)]
                        refine W_draw mixed ?_; refine WA_k (fuel := 4) [0,1,2,3,4,5,6,7,8,9,10,11,12,13,14,15,16,17,18,19] rfl (by kernel_rfl) ?_; refine ym rfl rfl rfl ?_; refine yp rfl (v_gt rfl rfl rfl (dT (by omega))) rfl ?_; refine ym rfl rfl rfl ?_; refine ym rfl rfl rfl ?_; refine ym rfl rfl rfl ?_; refine yp rfl (v_ixs rfl underlying23 sizeOf3 rfl rfl (by omega)) rfl ?_
                        refine yv rfl (v_ld rfl rfl isAgg3 (hga i hc0)) rfl ?_; refine ym rfl rfl rfl ?_; refine ym rfl rfl rfl ?_; refine yp rfl (n_sub rfl rfl rfl kI (by omega) (by omega)) rfl ?_; refine yp rfl (v_ixs rfl underlying23 sizeOf3 rfl rfl (by omega)) rfl ?_; refine yv rfl (v_ld rfl rfl isAgg3 (hga (i - 1) (by omega))) rfl ?_; refine yp rfl (v_eq rfl rfl rfl (dT (by rw [he]))) rfl ?_
                        refine yp rfl (v_pt rfl rfl rfl) rfl ?_; refine ym rfl rfl rfl ?_; refine ym rfl rfl rfl ?_; refine yp rfl (v_ge rfl rfl rfl (dT (by omega))) rfl ?_; refine yp rfl (v_pt rfl rfl rfl) rfl ?_; refine ym rfl rfl rfl ?_; refine ym rfl rfl rfl ?_; refine WK_nil ?_; refine WA_one (k := 20) rfl (by kernel_rfl) ?_
                        refine wc (e_c rfl rfl rfl call30) rfl rfl rfl (next_spec hz hV (by decide) (by decide) (by omega) hvl) .behind ?_; rintro _ _ ⟨rfl, rfl⟩; (try simp only [ap4]); refine WO_nil (sq_n ?_); refine WA_k (fuel := 0) [21,22,23] rfl (by kernel_rfl) ?_; refine yp rfl (n_gt rfl rfl rfl) rfl ?_; refine yp rfl (v_pt rfl rfl rfl) rfl ?_; refine yp rfl (v_as rfl rfl) rfl ?_; refine WK_nil ?_
                        refine WA_nil (by kernel_rfl) (sq_n (?_)); exact ⟨_, hQ3.symm, by simp only; omega, ⟨rfl, rfl, rfl, rfl, rfl, rfl, trivial⟩, rfl⟩
                      · have hQ3 : rq3 L V i nn a2x = (false, a2x) := by unfold rq3 rq; rw [if_neg (by rw [decide_eq_true_eq]; exact fun h => h3 h.2.2)]
                        refine W_draw mixed ?_; refine WA_k (fuel := 4) [0,1,2,3,4,5,6,7,8,9,10,11,12,13,14,15,16,17,18,19] rfl (by kernel_rfl) ?_; refine ym rfl rfl rfl ?_; refine yp rfl (v_gt rfl rfl rfl (dT (by omega))) rfl ?_; refine ym rfl rfl rfl ?_; refine ym rfl rfl rfl ?_; refine ym rfl rfl rfl ?_; refine yp rfl (v_ixs rfl underlying23 sizeOf3 rfl rfl (by omega)) rfl ?_
                        refine yv rfl (v_ld rfl rfl isAgg3 (hga i hc0)) rfl ?_; refine ym rfl rfl rfl ?_; refine ym rfl rfl rfl ?_; refine yp rfl (n_sub rfl rfl rfl kI (by omega) (by omega)) rfl ?_; refine yp rfl (v_ixs rfl underlying23 sizeOf3 rfl rfl (by omega)) rfl ?_; refine yv rfl (v_ld rfl rfl isAgg3 (hga (i - 1) (by omega))) rfl ?_; refine yp rfl (v_eq rfl rfl rfl (dT (by rw [he]))) rfl ?_
                        refine yp rfl (v_pt rfl rfl rfl) rfl ?_; refine ym rfl rfl rfl ?_; refine ym rfl rfl rfl ?_; refine yp rfl (v_ge rfl rfl rfl (dF (by omega))) rfl ?_; refine yp rfl (v_pt rfl rfl rfl) rfl ?_; refine ym rfl rfl rfl ?_; refine yno rfl rfl ?_; refine WK_nil ?_; refine WA_one (k := 20) rfl (by kernel_rfl) ?_; refine xno rfl ?_; refine WO_nil (sq_n ?_)
                        refine WA_k (fuel := 0) [21,22,23] rfl (by kernel_rfl) ?_; refine yno rfl rfl ?_; refine yp rfl (v_pf rfl rfl rfl) rfl ?_; refine yp rfl (v_as rfl rfl) rfl ?_; refine WK_nil ?_; refine WA_nil (by kernel_rfl) (sq_n (?_)); exact ⟨_, hQ3.symm, by simp only; omega, ⟨rfl, rfl, rfl, rfl, rfl, rfl, trivial⟩, rfl⟩
                    · have hQ3 : rq3 L V i nn a2x = (false, a2x) := by unfold rq3 rq; rw [if_neg (by rw [decide_eq_true_eq]; exact fun h => he h.2.1)]
                      refine W_draw mixed ?_; refine WA_k (fuel := 4) [0,1,2,3,4,5,6,7,8,9,10,11,12,13,14,15,16,17,18,19] rfl (by kernel_rfl) ?_; refine ym rfl rfl rfl ?_; refine yp rfl (v_gt rfl rfl rfl (dT (by omega))) rfl ?_; refine ym rfl rfl rfl ?_; refine ym rfl rfl rfl ?_; refine ym rfl rfl rfl ?_; refine yp rfl (v_ixs rfl underlying23 sizeOf3 rfl rfl (by omega)) rfl ?_
                      refine yv rfl (v_ld rfl rfl isAgg3 (hga i hc0)) rfl ?_; refine ym rfl rfl rfl ?_; refine ym rfl rfl rfl ?_; refine yp rfl (n_sub rfl rfl rfl kI (by omega) (by omega)) rfl ?_; refine yp rfl (v_ixs rfl underlying23 sizeOf3 rfl rfl (by omega)) rfl ?_; refine yv rfl (v_ld rfl rfl isAgg3 (hga (i - 1) (by omega))) rfl ?_; refine yp rfl (v_eq rfl rfl rfl (dF (fun e => he (by exact_mod_cast e)))) rfl ?_
                      refine yp rfl (v_pt rfl rfl rfl) rfl ?_; refine ym rfl rfl rfl ?_; refine yno rfl rfl ?_; refine yno rfl rfl ?_; refine yp rfl (v_pf rfl rfl rfl) rfl ?_; refine ym rfl rfl rfl ?_; refine yno rfl rfl ?_; refine WK_nil ?_; refine WA_one (k := 20) rfl (by kernel_rfl) ?_; refine xno rfl ?_; refine WO_nil (sq_n ?_); refine WA_k (fuel := 0) [21,22,23] rfl (by kernel_rfl) ?_; refine yno rfl rfl ?_
                      refine yp rfl (v_pf rfl rfl rfl) rfl ?_; refine yp rfl (v_as rfl rfl) rfl ?_; refine WK_nil ?_; refine WA_nil (by kernel_rfl) (sq_n (?_)); exact ⟨_, hQ3.symm, by simp only; omega, ⟨rfl, rfl, rfl, rfl, rfl, rfl, trivial⟩, rfl⟩
                  · have hQ3 : rq3 L V i nn a2x = (false, a2x) := by unfold rq3 rq; rw [if_neg (by rw [decide_eq_true_eq]; exact fun h => hi0 h.1)]
                    refine W_draw mixed ?_; refine WA_k (fuel := 4) [0,1,2,3,4,5,6,7,8,9,10,11,12,13,14,15,16,17,18,19] rfl (by kernel_rfl) ?_; refine ym rfl rfl rfl ?_; refine yp rfl (v_gt rfl rfl rfl (dF (by omega))) rfl ?_; refine ym rfl rfl rfl ?_; refine yno rfl rfl ?_; refine yno rfl rfl ?_; refine yno rfl rfl ?_; refine yno rfl rfl ?_; refine yno rfl rfl ?_; refine yno rfl rfl ?_; refine yno rfl rfl ?_
                    refine yno rfl rfl ?_; refine yno rfl rfl ?_; refine yno rfl rfl ?_; refine yp rfl (v_pf rfl rfl rfl) rfl ?_; refine ym rfl rfl rfl ?_; refine yno rfl rfl ?_; refine yno rfl rfl ?_; refine yp rfl (v_pf rfl rfl rfl) rfl ?_; refine ym rfl rfl rfl ?_; refine yno rfl rfl ?_; refine WK_nil ?_; refine WA_one (k := 20) rfl (by kernel_rfl) ?_; refine xno rfl ?_; refine WO_nil (sq_n ?_)
                    refine WA_k (fuel := 0) [21,22,23] rfl (by kernel_rfl) ?_; refine yno rfl rfl ?_; refine yp rfl (v_pf rfl rfl rfl) rfl ?_; refine yp rfl (v_as rfl rfl) rfl ?_; refine WK_nil ?_; refine WA_nil (by kernel_rfl) (sq_n (?_)); exact ⟨_, hQ3.symm, by simp only; omega, ⟨rfl, rfl, rfl, rfl, rfl, rfl, trivial⟩, rfl⟩
                · rintro E H ⟨⟨q3, a3x⟩, hQ3, hq3a, hE, rfl⟩; refine W.env hE ?_; dsimp only at hq3a ⊢; refine W_cond rfl (fun hc4 => ?_) (fun hc4 => ?_)
                  · subst hc4
                    have hrs : rstep L V i a = ((16, min nn 6 - 3, 2), min nn 6, a3x) := by
                      unfold rstep; rw [hml2, ← hQ]; show rstep2 L V i nn (rq2 L V i nn a1x) = _; rw [← hQ2]; show rstep3 L V i nn (rq3 L V i nn a2x) = _; rw [← hQ3]; rfl
                    have h3 : 3 ≤ nn := (of_decide_eq_true ((rq_bd (decide (0 < i ∧ L.getD i 0 = L.getD (i - 1) 0 ∧ 3 ≤ nn)) V a2x).2.2 (by rw [show rq (decide (0 < i ∧ L.getD i 0 = L.getD (i - 1) 0 ∧ 3 ≤ nn)) V a2x = (true, a3x) from hQ3.symm]))).2.2; refine W_seq fun K17 hK17 => ?_; refine W_region ?_; refine xm rfl rfl ?_; refine xp (n_min rfl rfl rfl) rfl ?_; refine xa rfl rfl ?_
                    refine WO_nil (sq_n (hK17 _ _ ?_)); refine W_region ?_; refine xm rfl rfl ?_; refine xm rfl rfl ?_; refine xp (n_sub rfl rfl rfl kI (by omega) (by omega)) rfl ?_; refine xp (v_any (.agg (List.toArray [iV 16, iV (min nn 6 - 3), iV 2])) rfl rfl (by intro w; kernel_rfl)) rfl ?_
                    refine wappT (bytes := 24) (a := 16) (b := (min nn 6 - 3)) (c := 2) underlying107 sizeOf110 typeInfo110 rfl zeroValue110 rfl hO rfl (by omega) (by omega) (v_bs (List.toArray [iV 16, iV (min nn 6 - 3), iV 2]) 110 1 rfl rfl (by intro w; kernel_rfl)) rfl rfl rfl rfl rfl rfl (fun _ => rfl) (fun _ => rfl) ?_; intro vb p3 c3 Hs3 hO3; refine xa rfl rfl ?_; refine WO_nil (bl_n (sq_n (?_))); rw [hrs]
                    exact ⟨p3, c3, Hs3, hO3, ⟨rfl, rfl, rfl, rfl, rfl, trivial⟩, rfl⟩
                  · subst hc4
                    have hrs : rstep L V i a = ((L.getD i 0, 0, 0), 1, a3x) := by
                      unfold rstep; rw [hml2, ← hQ]; show rstep2 L V i nn (rq2 L V i nn a1x) = _; rw [← hQ2]; show rstep3 L V i nn (rq3 L V i nn a2x) = _; rw [← hQ3]; rfl
                    refine W_seq fun K18 hK18 => ?_; refine W_region ?_; refine xa rfl rfl ?_; refine WO_nil (sq_n (hK18 _ _ ?_)); refine W_region ?_; refine xm rfl rfl ?_; refine xm rfl rfl ?_; refine xm rfl rfl ?_; refine xp (v_ixs rfl underlying23 sizeOf3 rfl rfl (by omega)) rfl ?_; refine xv (v_ld rfl rfl isAgg3 (hga i hc0)) rfl ?_
                    refine xp (v_any (.agg (List.toArray [iV (L.getD i 0), iV 0, iV 0])) rfl rfl (by intro w; kernel_rfl)) rfl ?_
                    refine wappT (bytes := 24) (a := (L.getD i 0)) (b := 0) (c := 0) underlying107 sizeOf110 typeInfo110 rfl zeroValue110 rfl hO rfl (by omega) (by omega) (v_bs (List.toArray [iV (L.getD i 0), iV 0, iV 0]) 110 1 rfl rfl (by intro w; kernel_rfl)) rfl rfl rfl rfl rfl rfl (fun _ => rfl) (fun _ => rfl) ?_; intro vb p3 c3 Hs3 hO3; refine xa rfl rfl ?_; refine WO_nil (bl_n (sq_n (?_))); rw [hrs]
                    exact ⟨p3, c3, Hs3, hO3, ⟨rfl, rfl, rfl, rfl, rfl, trivial⟩, rfl⟩
      · rintro E H ⟨p3, c3, Hs3, hO3, hE, rfl⟩; refine W.env hE ?_; obtain ⟨f1, f2, f3, f4, f5⟩ := rstep_ok h15 V i a hc0; refine W_region ?_; refine xm rfl rfl ?_; refine xm rfl rfl ?_; refine xp (n_add rfl rfl rfl kI (by omega)) rfl ?_; refine xa rfl rfl ?_; refine WO_nil (bl_n (sq_n (?_))); skip
        obtain ⟨g1, g2, g3, g4, g5⟩ := rstep_ok h15 V i a hc0; refine ⟨L.length - _, ?_, _, _, _, k, p3, c3, Hs3, g3, rfl, by omega, by omega, by rw [List.length_append, List.length_singleton]; omega, by rw [List.append_assoc]; exact hT, hT2, hO3, ⟨rfl, rfl, rfl, rfl, trivial⟩, rfl⟩; omega
  · replace hc0 := of_decide_eq_false hc0; obtain rfl : i = L.length := by omega
    have hTe : (rruns L V k L.length a).1 = [] ∧ (rruns L V k L.length a).2 = a := by
      cases k with
      | zero => exact ⟨rfl, rfl⟩
      | succ k => rw [rruns, if_neg (Nat.lt_irrefl _)]; exact ⟨rfl, rfl⟩
    rw [hTe.1, List.append_nil] at hT; rw [hTe.2] at hT2; subst hT hT2; refine W_exit (sq_x (sq_x (bl_x (sq_n (hK3 _ _ ?_))))); refine W.keep [5] rfl ?_; refine W_seq fun K19 hK19 => ?_; refine W_region ?_; refine xm rfl rfl ?_; refine xa rfl rfl ?_; refine WO_nil (sq_n (hK19 _ _ ?_)); refine W_ret (ret_of (v := _) rfl ?_); exact ⟨p2, c2, Hs, rfl, hO, rfl⟩
end
end Go.Proofs.YtpbahgddoamhgaaGreatDoor
namespace Go.Proofs.YtpbahgddoamhgaaGreatDoor
open Go.Proofs.Tryz
open Go Sx Pu
set_option maxRecDepth 10000

namespace Pu
def wtok (C1 C2 L1 L2 : List Nat) (s : WS) (t : T3) : WS :=
  if t.2.1 = 0 then wcode s (C1.getD t.1 0) (L1.getD t.1 0)
  else wbits (wcode (wbits (wcode s (C1.getD (lsym t.2.2) 0) (L1.getD (lsym t.2.2) 0)) (lmore t.2.2) (lext t.2.2)) (C2.getD (dsym t.2.1) 0) (L2.getD (dsym t.2.1) 0)) (t.2.1 - distBase (dsym t.2.1)) (distExtra (dsym t.2.1))
def wbody (L1 L2 : List Nat) (T : List T3) (s : WS) : WS :=
  wcode (T.foldl (wtok (codesL L1) (codesL L2) L1 L2) s) ((codesL L1).getD 256 0) (L1.getD 256 0)
theorem lext_bd {l : Nat} (h : 3 ≤ l) : lext l ≤ 5 := by
  unfold lext; split
  · omega
  · have := lsym_bd h; exact (len_table (lsym l) (by unfold lsym; rename_i h2; rw [if_neg h2]; have := symD_bd (base := lenBase) (v := l) (lo := 257) h 27; omega) this.1).2.1
theorem wtok_ok {C1 C2 L1 L2 : List Nat} {s : WS} {t : T3} (h : WOk s) (ht : TokOk t) (h1 : ∀ x ∈ L1, x ≤ 15) (h2 : ∀ x ∈ L2, x ≤ 15) : WOk (wtok C1 C2 L1 L2 s t) ∧ s.2 ≤ (wtok C1 C2 L1 L2 s t).2 ∧ (wtok C1 C2 L1 L2 s t).2 ≤ s.2 + 48 := by
  have a1 := getD_le h1 t.1; have a2 := getD_le h1 (lsym t.2.2); have a3 := getD_le h2 (dsym t.2.1); unfold wtok; split
  · exact ⟨wcode_ok _ h, by rw [wcode_at]; omega, by rw [wcode_at]; omega⟩
  · rename_i hf
    rcases ht with ⟨h3, _⟩ | ⟨h3, h4, h5, h6⟩
    · exact absurd h3 hf
    · have b1 := lext_bd h5; have b2 := (dist_table (dsym t.2.1) (by have := dsym_bd h3; omega)).2.1; exact ⟨wbits_ok (wcode_ok _ (wbits_ok (wcode_ok _ h) _ _)) _ _, by rw [wbits_at, wcode_at, wbits_at, wcode_at]; omega, by rw [wbits_at, wcode_at, wbits_at, wcode_at]; omega⟩
theorem wtoks_ok {C1 C2 L1 L2 : List Nat} (h1 : ∀ x ∈ L1, x ≤ 15) (h2 : ∀ x ∈ L2, x ≤ 15) : ∀ (T : List T3) {s : WS}, WOk s → (∀ t ∈ T, TokOk t) → WOk (T.foldl (wtok C1 C2 L1 L2) s) ∧ s.2 ≤ (T.foldl (wtok C1 C2 L1 L2) s).2 ∧ (T.foldl (wtok C1 C2 L1 L2) s).2 ≤ s.2 + 48 * T.length
  | [], s, h, _ => ⟨h, Nat.le_refl _, Nat.le_refl _⟩
  | t :: T, s, h, ht => by
    obtain ⟨a1, a2, a3⟩ := wtok_ok (C1 := C1) (C2 := C2) h (ht t (by simp)) h1 h2; obtain ⟨b1, b2, b3⟩ := wtoks_ok (C1 := C1) (C2 := C2) h1 h2 T a1 fun u hu => ht u (by simp [hu]); refine ⟨b1, by rw [List.foldl_cons]; omega, by rw [List.foldl_cons, List.length_cons]; omega⟩
theorem wbody_ok {L1 L2 : List Nat} {T : List T3} {s : WS} (h : WOk s) (ht : ∀ t ∈ T, TokOk t) (h1 : ∀ x ∈ L1, x ≤ 15) (h2 : ∀ x ∈ L2, x ≤ 15) : WOk (wbody L1 L2 T s) ∧ s.2 ≤ (wbody L1 L2 T s).2 ∧ (wbody L1 L2 T s).2 ≤ s.2 + 48 * T.length + 15 := by
  obtain ⟨a1, a2, a3⟩ := wtoks_ok (C1 := codesL L1) (C2 := codesL L2) h1 h2 T h ht; have := getD_le h1 256; unfold wbody; exact ⟨wcode_ok _ a1, by rw [wcode_at]; omega, by rw [wcode_at]; omega⟩
theorem codesL_lt {L : List Nat} (hL : L.length ≤ 320) (i : Nat) : (codesL L).getD i 0 < 2 ^ 63 := by
  rcases Nat.lt_or_ge i (codesL L).length with h | h
  · rw [getD_in h]; simp only [codesL, List.getElem_map, List.getElem_range]
    unfold codeOf; split
    · rename_i h1
      have := cn_bd hL (j := L.getD i 0 - 1) (by omega); have := rank_le L (L.getD i 0) i; have hi : i < L.length := by simpa [codesL] using h
      omega
    · decide
  · rw [List.getD_eq_getElem?_getD, List.getElem?_eq_none h]; decide
theorem codesL_length (L : List Nat) : (codesL L).length = L.length := by simp [codesL]
end Pu
section
variable {n : Nat} {E : El} {H : Hl} {o : Oper} {x : Operand} {P : Program}
theorem v_lda {t : TypeId} {z p b : Nat} {c vs : List Value} {ty : TypeId} {fz : Nat × Nat} {r : Obj → Hl} (ho : o.op = .load t x) (hx : ev E x = some (.pointer (some ⟨b, p, none⟩))) (hagg : ∀ w, (isAgg t).run P w = .ok true w) (hz : ∀ w, (sizeOf t).run P w = .ok z w)
    (ha : AtH H b (.cells c.toArray ty fz) r) (hl : vs.length = z) (hc : ∀ j, j < z → c[p + j]? = vs[j]?) : OV P n E H o (.agg vs.toArray) := fun O F a w hag hp => by
  have hr := Sx.run_loadCellsFrom (P := P) (w := w) (p := p) (b := b) vs 0 #[] (fun j hj => by
    rw [Nat.add_zero, cell_of (v := vs[j]) hp ha (by rw [hc j (by omega)]; simp [hj])]; simp [hj])
  subst hl; simp [execOp, ho, ev_sound hag hx, Instr.loadAt, Instr.sureAddr, loadVar, hagg, hz, loadCells, hr]
end
theorem zv101 (w : World) : (zeroValue 101).run Tryz.prog w = .ok (.agg (List.toArray [iV 0, iV 0, iV 0])) w := by kernel_rfl
theorem zv110 (w : World) : (zeroValue 110).run Tryz.prog w = .ok (.agg (List.toArray [iV 0, iV 0, iV 0])) w := by kernel_rfl
section
variable {D : Hl} {w cap1 cap2 capT : Nat} {pT p1 p2 : Option Addr} {T : List T3} {L1 L2 : List Nat} {s : WS} {G : Hl}
set_option maxHeartbeats 4000000 in
theorem body_spec (hT : DatT pT T D) (hTo : ∀ t ∈ T, TokOk t) (hTl : T.length < 2 ^ 32) (h1 : DatI p1 L1 D) (h1l : 286 ≤ L1.length ∧ L1.length ≤ 320) (h115 : ∀ x ∈ L1, x ≤ 15) (h2 : DatI p2 L2 D) (h2l : 30 ≤ L2.length ∧ L2.length ≤ 320) (h215 : ∀ x ∈ L2, x ≤ 15)
    (hw : WOk s) (hG : WH w s G) (hb : s.1.length < 2 ^ 44) :
    CallsL Tryz.prog 35 #[.pointer (some ⟨w, 0, none⟩), .slice pT T.length capT, .slice p1 L1.length cap1, .slice p2 L2.length cap2] (D ++ G) fun _ H' => ∃ X G', WH w (wbody L1 L2 T s) G' ∧ H' = X ++ (D ++ G') := by
  obtain ⟨C1, hC1⟩ : ∃ C, codesL L1 = C := ⟨_, rfl⟩; obtain ⟨C2, hC2⟩ : ∃ C, codesL L2 = C := ⟨_, rfl⟩; have hl1 : C1.length = L1.length := by rw [← hC1]; exact codesL_length L1
  have hl2 : C2.length = L2.length := by rw [← hC2]; exact codesL_length L2
  have hcb1 : ∀ i, C1.getD i 0 < 2 ^ 63 := fun i => by rw [← hC1]; exact codesL_lt h1l.2 i
  have hcb2 : ∀ i, C2.getD i 0 < 2 ^ 63 := fun i => by rw [← hC2]; exact codesL_lt h2l.2 i
  have h3 := hw.le; have h4 := hw.lt; obtain ⟨q1, o1, k1, ty1, fz1, r1, rfl, hat1, hcc1⟩ := h1 (by intro e; subst e; simp at h1l); obtain ⟨q2, o2, k2, ty2, fz2, r2, rfl, hat2, hcc2⟩ := h2 (by intro e; subst e; simp at h2l); have hg1 : ∀ j, j < L1.length → k1[o1 + j]? = some (iV (L1.getD j 0)) := fun j hj => by rw [hcc1 j hj, getD_in hj]
  have hg2 : ∀ j, j < L2.length → k2[o2 + j]? = some (iV (L2.getD j 0)) := fun j hj => by rw [hcc2 j hj, getD_in hj]
  have hat1o := hat1; have hat2o := hat2; refine CallsL_of func35 rfl ntmps35 rfl ?_; try dsimp only [initE, Nat.zero_add]
  refine W_seq fun K1 hK1 => ?_; refine W_region ?_; refine xm rfl rfl ?_; refine wc (e_c rfl rfl rfl call44) rfl rfl rfl (codes_spec ((h1).appl G) h1l.2) .all ?_; rintro _ _ ⟨b1, rfl, rfl⟩; rw [hC1]; (try simp only [ap4]); refine xm rfl rfl ?_; refine wc (e_c rfl rfl rfl call44) rfl rfl rfl (codes_spec (((h2).appl G).cons _) h2l.2) .all ?_; rintro _ _ ⟨b2, rfl, rfl⟩; rw [hC2]; (try simp only [ap4])
  refine xa rfl rfl ?_; refine xa rfl rfl ?_; refine WO_nil (sq_n (hK1 _ _ ?_)); refine W.keep [0,1,2,3,8,9] rfl ?_; refine W_seq fun K2 hK2 => ?_; refine W_seq fun K3 hK3 => ?_; refine W_region ?_; refine xm rfl rfl ?_; refine xp (v_len rfl underlying72 rfl) rfl ?_; refine xm rfl rfl ?_; refine WO_nil (sq_n (hK3 _ _ ?_)); refine W_block ?_
  refine W_loop (fun m E H => ∃ i t G, i ≤ T.length ∧ m = T.length - i ∧ WOk t ∧ t.2 ≤ s.2 + 48 * i ∧ (T.drop i).foldl (wtok C1 C2 L1 L2) t = T.foldl (wtok C1 C2 L1 L2) s ∧ WH w t G ∧ Sub E [(0, .pointer (some ⟨w, 0, none⟩)), (2, .slice (some ⟨q1, o1, none⟩) L1.length cap1), (3, .slice (some ⟨q2, o2, none⟩) L2.length cap2), (8, .slice (some ⟨b1, 0, none⟩) L1.length L1.length), (9, .slice (some ⟨b2, 0, none⟩) L2.length L2.length), (19, .slice pT T.length capT), (20, iV T.length), (21, iV i)] ∧ H = (b2, .cells (List.toArray (C2.map iV)) 3 (0, 0)) :: (b1, .cells (List.toArray (C1.map iV)) 3 (0, 0)) :: (D ++ G)) (m := _) (⟨0, s, G, Nat.zero_le _, rfl, hw, by omega, rfl, hG, ⟨rfl, rfl, rfl, rfl, rfl, rfl, rfl, rfl, trivial⟩, rfl⟩) ?_
  clear hG; rintro m E H ⟨i, t, G, hi, rfl, hwt, hta, hfo, hG, hE, rfl⟩; refine W.env hE ?_; have hat1 := AtH.appl (D := G) hat1o; have hat2 := AtH.appl (D := G) hat2o; have g3 := hwt.le; have g4 := hwt.lt; refine W_seq fun K4 hK4 => ?_; refine W_region ?_; refine xp (n_lt rfl rfl rfl) rfl ?_; refine WO_nil (sq_n (hK4 _ _ ?_)); refine W_seq fun K5 hK5 => ?_; refine W_cond rfl (fun hc0 => ?_) (fun hc0 => ?_)
  · replace hc0 := of_decide_eq_true hc0; obtain ⟨q3, k3, ty3, fz3, r3, rfl, hat3, hcc3⟩ := hT (by intro e; subst e; simp at hc0); obtain ⟨u1, u2, u3⟩ := hcc3 i hc0; have hti := hTo _ (List.getElem_mem hc0); rw [List.drop_eq_getElem_cons hc0, List.foldl_cons] at hfo; generalize T[i] = tt at *; obtain ⟨ta, tb, tc⟩ := tt; dsimp only at u1 u2 u3; have hat3 := AtH.appl (D := G) hat3
    obtain ⟨v1, v2, v3⟩ := wtok_ok (C1 := C1) (C2 := C2) hwt hti h115 h215; have hd1 := fun x => getD_le h115 x; have hd2 := fun x => getD_le h215 x; refine W_skip (sq_n (hK5 _ _ ?_)); refine W_seq fun K6 hK6 => ?_; refine W_block ?_; refine W_seq fun K7 hK7 => ?_; refine W_region ?_; refine xp (v_ixs rfl underlying72 sizeOf101 rfl rfl (by omega)) rfl ?_
    refine wv (v_lda (z := 3) (vs := [iV ta, iV tb, iV tc]) rfl rfl isAgg101 sizeOf101 (AtH.there (h := AtH.there (h := hat3))) rfl (fun j hj => by
      match j, hj with
      | 0, _ => rw [Nat.add_zero]; simpa using u1
      | 1, _ => simpa using u2
      | 2, _ => simpa using u3)) rfl rfl rfl ?_
    refine wf (v_ala rfl zv101) rfl rfl rfl ?_; intro tb0 _; refine wsn (v_sta (c' := [iV ta, iV tb, iV tc]) rfl rfl rfl sizeOf101 rfl (fun v hv => List.all_eq_true.1 (show List.all _ one = true from rfl) v hv) rfl (Nat.le_of_ble_eq_true rfl)) rfl rfl ?_; rintro _ _ ⟨rfl, rfl⟩; refine WO_nil (sq_n (hK7 _ _ ?_)); refine W_seq fun K8 hK8 => ?_; refine W_seq fun K9 hK9 => ?_; refine W_region ?_
    refine xp (v_fa (q := 1) rfl underlying101 rfl rfl sizeOf3 rfl) rfl ?_; refine xv (ld rfl rfl isAgg3) rfl ?_; refine xp (n_eq rfl rfl rfl) rfl ?_; refine WO_nil (sq_n (hK9 _ _ ?_)); refine W_cond rfl (fun hc1 => ?_) (fun hc1 => ?_)
    · replace hc1 := of_decide_eq_true hc1; have htk : wtok C1 C2 L1 L2 t (ta, tb, tc) = wcode t (C1.getD ta 0) (L1.getD ta 0) := by unfold wtok; rw [if_pos hc1]
      have hta2 : ta < 256 := by rcases hti with h | h; exact h.2; exact absurd hc1 (by have := h.1; simp only at this; omega)
      refine W_seq fun K10 hK10 => ?_; refine W_draw mixed ?_; refine WA_k (fuel := 1) [0,1,2,3,4,5,6,7,8,9,10] rfl (by kernel_rfl) ?_; refine ym rfl rfl rfl ?_; refine ym rfl rfl rfl ?_; refine yp rfl (v_fa (q := 0) rfl underlying101 rfl rfl sizeOf3 rfl) rfl ?_; refine yv rfl (ld rfl rfl isAgg3) rfl ?_; refine yp rfl (v_ixs rfl underlying23 sizeOf3 rfl rfl (by omega)) rfl ?_
      refine yv rfl (v_ld rfl rfl isAgg3 (ints_at (by omega))) rfl ?_; refine ym rfl rfl rfl ?_; refine yp rfl (v_fa (q := 0) rfl underlying101 rfl rfl sizeOf3 rfl) rfl ?_; refine yv rfl (ld rfl rfl isAgg3) rfl ?_; refine yp rfl (v_ixs rfl underlying23 sizeOf3 rfl rfl (by omega)) rfl ?_; refine yv rfl (v_ld rfl rfl isAgg3 (hg1 _ (by omega))) rfl ?_; refine WK_nil ?_; refine WA_one (k := 11) rfl (by kernel_rfl) ?_
      refine wc (e_c rfl rfl rfl call45) rfl rfl rfl (wcode_spec hwt hG (hcb1 _) (by have := hd1 ta; omega) (by omega)) (.behind (A := _ :: _ :: _ :: _)) ?_; intro _ G2 hG2; (try simp only [ap4]); refine WO_nil (sq_n ?_); refine WA_nil (by kernel_rfl) (sq_n (hK10 _ _ ?_)); refine W_exit (sq_x (bl_x (sq_n (hK6 _ _ ?_)))); refine W.drop (.skip .all) ?_; refine W_region ?_
      refine xp (n_add rfl rfl rfl kI (by omega)) rfl ?_; refine xm rfl rfl ?_; refine WO_nil (sq_n (?_)); first
      | (have hq := hG5; exact ⟨T.length - (i + 1), by omega, i + 1, _, _, by omega, rfl, v1, by omega, hfo, by rw [htk]; exact hG5, ⟨rfl, rfl, rfl, rfl, rfl, rfl, rfl, rfl, trivial⟩, rfl⟩)
      | exact ⟨T.length - (i + 1), by omega, i + 1, _, _, by omega, rfl, v1, by omega, hfo, by rw [htk]; exact hG2, ⟨rfl, rfl, rfl, rfl, rfl, rfl, rfl, rfl, trivial⟩, rfl⟩
    · replace hc1 := of_decide_eq_false hc1; obtain ⟨j1, j2, j3, j4⟩ : 1 ≤ tb ∧ tb ≤ 32768 ∧ 3 ≤ tc ∧ tc ≤ 258 := by rcases hti with h | h; exact absurd h.1 hc1; exact h
      have hls := lsym_bd j3; have hds := dsym_bd j1; have hle := lext_bd j3; have hde := (dist_table (dsym tb) (by omega)).2.1; have htk : wtok C1 C2 L1 L2 t (ta, tb, tc) = wbits (wcode (wbits (wcode t (C1.getD (lsym tc) 0) (L1.getD (lsym tc) 0)) (lmore tc) (lext tc)) (C2.getD (dsym tb) 0) (L2.getD (dsym tb) 0)) (tb - distBase (dsym tb)) (distExtra (dsym tb)) := by unfold wtok; rw [if_neg hc1]
      have hlm : lmore tc ≤ 258 := by unfold lmore; split <;> omega
      refine W_skip (sq_n (hK8 _ _ ?_)); refine W_seq fun K11 hK11 => ?_; refine W_region ?_; refine xp (v_fa (q := 2) rfl underlying101 rfl rfl sizeOf3 rfl) rfl ?_; refine xv (ld rfl rfl isAgg3) rfl ?_; refine wc (e_c rfl rfl rfl call46) rfl rfl rfl (lengthSymbol_spec j3 j4) .nil ?_; rintro _ _ ⟨rfl, rfl⟩; (try simp only [ap4]); refine xm rfl rfl ?_; refine xp (v_ex rfl rfl rfl) rfl ?_
      refine xp (v_ex rfl rfl rfl) rfl ?_; refine xp (v_ex rfl rfl rfl) rfl ?_; refine xa rfl rfl ?_; refine xa rfl rfl ?_; refine xa rfl rfl ?_; refine WO_nil (sq_n (hK11 _ _ ?_)); refine W_seq fun K12 hK12 => ?_; refine W_draw mixed ?_; refine WA_k (fuel := 1) [0,1,2,3,4,5,6,7,8] rfl (by kernel_rfl) ?_; refine ym rfl rfl rfl ?_; refine ym rfl rfl rfl ?_; refine ym rfl rfl rfl ?_
      refine yp rfl (v_ixs rfl underlying23 sizeOf3 rfl rfl (by omega)) rfl ?_; refine yv rfl (v_ld rfl rfl isAgg3 (ints_at (by omega))) rfl ?_; refine ym rfl rfl rfl ?_; refine ym rfl rfl rfl ?_; refine yp rfl (v_ixs rfl underlying23 sizeOf3 rfl rfl (by omega)) rfl ?_; refine yv rfl (v_ld rfl rfl isAgg3 (hg1 _ (by omega))) rfl ?_; refine WK_nil ?_; refine WA_one (k := 9) rfl (by kernel_rfl) ?_
      refine wc (e_c rfl rfl rfl call45) rfl rfl rfl (wcode_spec hwt hG (hcb1 _) (by have := hd1 (lsym tc); omega) (by omega)) (.behind (A := _ :: _ :: _ :: _)) ?_; intro _ G2 hG2; have w2 := wcode_ok (n := C1.getD (lsym tc) 0) (L1.getD (lsym tc) 0) hwt; have a2 := wcode_at (n := C1.getD (lsym tc) 0) (L1.getD (lsym tc) 0) t; have x2 := hd1 (lsym tc); have y2 := w2.le; have z2 := w2.lt
      generalize wcode t (C1.getD (lsym tc) 0) (L1.getD (lsym tc) 0) = s2 at *; (try simp only [ap4]); refine WO_nil (sq_n ?_); refine WA_nil (by kernel_rfl) (sq_n (hK12 _ _ ?_)); refine W_seq fun K13 hK13 => ?_; refine W_region ?_; refine xm rfl rfl ?_; refine xm rfl rfl ?_; refine xm rfl rfl ?_
      refine wc (e_c rfl rfl rfl call32) rfl rfl rfl (wbits_spec w2 hG2 (by omega) (by omega) (by omega)) (.behind (A := _ :: _ :: _ :: _)) ?_; intro _ G3 hG3; have w3 := wbits_ok w2 (lmore tc) (lext tc); have a3 := wbits_at s2 (lmore tc) (lext tc); have y3 := w3.le; have z3 := w3.lt; generalize wbits s2 (lmore tc) (lext tc) = s3 at *; (try simp only [ap4]); refine WO_nil (sq_n (hK13 _ _ ?_))
      refine W_seq fun K14 hK14 => ?_; refine W_region ?_; refine xp (v_fa (q := 1) rfl underlying101 rfl rfl sizeOf3 rfl) rfl ?_; refine xv (ld rfl rfl isAgg3) rfl ?_; refine wc (e_c rfl rfl rfl call47) rfl rfl rfl (distanceSymbol_spec j1 j2) .nil ?_; rintro _ _ ⟨rfl, rfl⟩; (try simp only [ap4]); refine xm rfl rfl ?_; refine xp (v_ex rfl rfl rfl) rfl ?_; refine xp (v_ex rfl rfl rfl) rfl ?_
      refine xp (v_ex rfl rfl rfl) rfl ?_; refine xa rfl rfl ?_; refine xa rfl rfl ?_; refine xa rfl rfl ?_; refine WO_nil (sq_n (hK14 _ _ ?_)); refine W_seq fun K15 hK15 => ?_; have hat2 := AtH.appl (D := G3) hat2o; refine W_draw mixed ?_; refine WA_k (fuel := 1) [0,1,2,3,4,5,6,7,8] rfl (by kernel_rfl) ?_; refine ym rfl rfl rfl ?_; refine ym rfl rfl rfl ?_; refine ym rfl rfl rfl ?_
      refine yp rfl (v_ixs rfl underlying23 sizeOf3 rfl rfl (by omega)) rfl ?_; refine yv rfl (v_ld rfl rfl isAgg3 (ints_at (by omega))) rfl ?_; refine ym rfl rfl rfl ?_; refine ym rfl rfl rfl ?_; refine yp rfl (v_ixs rfl underlying23 sizeOf3 rfl rfl (by omega)) rfl ?_; refine yv rfl (v_ld rfl rfl isAgg3 (hg2 _ (by omega))) rfl ?_; refine WK_nil ?_; refine WA_one (k := 9) rfl (by kernel_rfl) ?_
      refine wc (e_c rfl rfl rfl call45) rfl rfl rfl (wcode_spec w3 hG3 (hcb2 _) (by have := hd2 (dsym tb); omega) (by omega)) (.behind (A := _ :: _ :: _ :: _)) ?_; intro _ G4 hG4; have w4 := wcode_ok (n := C2.getD (dsym tb) 0) (L2.getD (dsym tb) 0) w3; have a4 := wcode_at (n := C2.getD (dsym tb) 0) (L2.getD (dsym tb) 0) s3; have x4 := hd2 (dsym tb); have y4 := w4.le; have z4 := w4.lt
      generalize wcode s3 (C2.getD (dsym tb) 0) (L2.getD (dsym tb) 0) = s4 at *; (try simp only [ap4]); refine WO_nil (sq_n ?_); refine WA_nil (by kernel_rfl) (sq_n (hK15 _ _ ?_)); refine W.keep [0,2,3,8,9,19,20,21,22,23,24,11,25,26,27,41,42,43,40,44,45,46,47,48,49,50,51,52,53,54,55,57,58,59,62,63,64,61,65,66,67,12,13,14,68,69,70,71,72,73,74,75,76] rfl ?_; refine W_region ?_; refine xm rfl rfl ?_; refine xm rfl rfl ?_
      refine xm rfl rfl ?_; refine wc (e_c rfl rfl rfl call32) rfl rfl rfl (wbits_spec w4 hG4 (by omega) (by omega) (by omega)) (.behind (A := _ :: _ :: _ :: _)) ?_; intro _ G5 hG5; (try simp only [ap4]); refine WO_nil (bl_n (sq_n (hK6 _ _ ?_))); refine W.drop (.skip .all) ?_; refine W_region ?_; refine xp (n_add rfl rfl rfl kI (by omega)) rfl ?_; refine xm rfl rfl ?_; refine WO_nil (sq_n (?_)); first
      | (have hq := hG5; exact ⟨T.length - (i + 1), by omega, i + 1, _, _, by omega, rfl, v1, by omega, hfo, by rw [htk]; exact hG5, ⟨rfl, rfl, rfl, rfl, rfl, rfl, rfl, rfl, trivial⟩, rfl⟩)
      | exact ⟨T.length - (i + 1), by omega, i + 1, _, _, by omega, rfl, v1, by omega, hfo, by rw [htk]; exact hG2, ⟨rfl, rfl, rfl, rfl, rfl, rfl, rfl, rfl, trivial⟩, rfl⟩
  · replace hc0 := of_decide_eq_false hc0; obtain rfl : i = T.length := by omega
    rw [List.drop_length] at hfo; subst hfo; refine W_exit (sq_x (sq_x (bl_x (sq_n (hK2 _ _ ?_))))); refine W.keep [0,2,8] rfl ?_; have hx256 := getD_le h115 256; refine W_draw mixed ?_; refine WA_k (fuel := 1) [0,1,2,3,4,5,6] rfl (by kernel_rfl) ?_; refine ym rfl rfl rfl ?_; refine ym rfl rfl rfl ?_; refine yp rfl (v_ixs rfl underlying23 sizeOf3 rfl rfl (by omega)) rfl ?_
    refine yv rfl (v_ld rfl rfl isAgg3 (ints_at (by omega))) rfl ?_; refine ym rfl rfl rfl ?_; refine yp rfl (v_ixs rfl underlying23 sizeOf3 rfl rfl (by omega)) rfl ?_; refine yv rfl (v_ld rfl rfl isAgg3 (hg1 _ (by omega))) rfl ?_; refine WK_nil ?_; refine WA_one (k := 7) rfl (by kernel_rfl) ?_
    refine wc (e_c rfl rfl rfl call45) rfl rfl rfl (wcode_spec hwt hG (hcb1 _) (by omega) (by omega)) (.behind (A := _ :: _ :: _)) ?_; intro _ G6 hG6; (try simp only [ap4]); refine WO_nil (sq_n ?_); refine WA_nil (by kernel_rfl) (end_of (v := _) rfl ?_); exact ⟨[_, _], G6, by unfold wbody; rw [hC1, hC2]; exact hG6, rfl⟩
end
end Go.Proofs.YtpbahgddoamhgaaGreatDoor
namespace Go.Proofs.YtpbahgddoamhgaaGreatDoor
open Go Sx Pu
set_option maxRecDepth 10000

namespace Pu
def ustep (u : List Nat × List Nat) (t : T3) : List Nat × List Nat := if t.2.1 = 0 then (u.1.set t.1 1, u.2) else (u.1.set (lsym t.2.2) 1, u.2.set (dsym t.2.1) 1)
def u0 : List Nat × List Nat := ((List.replicate 286 0).set 256 1, List.replicate 30 0)
def usedT (T : List T3) : List Nat × List Nat := T.foldl ustep u0
def uext (T : List T3) (V : List Int) (a : Nat) : List Nat × Nat := if nxt V a 2 = 0 then ((usedT T).1.set (nxt V (a + 1) 286) 1, a + 2) else ((usedT T).1, a + 1)
def trim (L : List Nat) (lo : Nat) : Nat → Nat
  | 0 => lo
  | k + 1 => if L.getD (lo + k) 0 = 0 then trim L lo k else lo + k + 1
def trimO (L : List Nat) : Nat → Nat
  | 0 => 4
  | k + 1 => if L.getD (orderL.getD (4 + k) 0) 0 = 0 then trimO L k else 4 + k + 1
theorem trim_bd (L : List Nat) (lo : Nat) : ∀ k, lo ≤ trim L lo k ∧ trim L lo k ≤ lo + k
  | 0 => ⟨Nat.le_refl _, Nat.le_refl _⟩
  | k + 1 => by
    rw [trim]; split
    · have := trim_bd L lo k; omega
    · omega
theorem trimO_bd (L : List Nat) : ∀ k, 4 ≤ trimO L k ∧ trimO L k ≤ 4 + k
  | 0 => ⟨Nat.le_refl _, Nat.le_refl _⟩
  | k + 1 => by
    rw [trimO]; split
    · have := trimO_bd L k; omega
    · omega
def used19 (T : List T3) : List Nat := T.foldl (fun u t => u.set t.1 1) (List.replicate 19 0)
def wlens (L : List Nat) : List Nat → WS → WS
  | [], s => s
  | o :: r, s => wlens L r (wbits s (L.getD o 0) 3)
def wrun (C L : List Nat) (s : WS) (t : T3) : WS := wbits (wcode s (C.getD t.1 0) (L.getD t.1 0)) t.2.1 t.2.2
structure DynT where
  LL : List Nat
  DD : List Nat
  nl : Nat
  nd : Nat
  rows : List T3
  a : Nat
  lens : List Nat
  nc : Nat
def dynT (T : List T3) (V : List Int) (a : Nat) : DynT :=
  let u := uext T V a
  let l := tree u.1 V u.2 15
  let d := tree (usedT T).2 V l.2 15
  let nl := trim l.1 257 29
  let nd := trim d.1 1 29
  let r := rruns (l.1.take nl ++ d.1.take nd) V (l.1.take nl ++ d.1.take nd).length 0 d.2
  let lens := (tree (used19 r.1) [] 0 7).1
  ⟨l.1, d.1, nl, nd, r.1, r.2, lens, trimO lens 15⟩
def wdynT (x : DynT) (T : List T3) (s : WS) : WS :=
  wbody x.LL x.DD T (x.rows.foldl (wrun (codesL x.lens) x.lens) (wlens x.lens (orderL.take x.nc) (wbits (wbits (wbits s (x.nl - 257) 5) (x.nd - 1) 5) (x.nc - 4) 4)))
def wdyn (T : List T3) (V : List Int) (a : Nat) (s : WS) : WS × Nat := (wdynT (dynT T V a) T s, (dynT T V a).a)

theorem dynT_eq {T : List T3} {V : List Int} {a a2 a3 : Nat} {x : DynT} (hx : dynT T V a = x) (h2 : (tree (uext T V a).1 V (uext T V a).2 15).2 = a2) (h3 : (tree (usedT T).2 V a2 15).2 = a3) :
    (tree (uext T V a).1 V (uext T V a).2 15).1 = x.LL ∧ (tree (usedT T).2 V a2 15).1 = x.DD ∧ x.nl = trim x.LL 257 29 ∧ x.nd = trim x.DD 1 29 ∧
    (rruns (x.LL.take x.nl ++ x.DD.take x.nd) V (x.LL.take x.nl ++ x.DD.take x.nd).length 0 a3).1 = x.rows ∧ (rruns (x.LL.take x.nl ++ x.DD.take x.nd) V (x.LL.take x.nl ++ x.DD.take x.nd).length 0 a3).2 = x.a ∧
    (tree (used19 x.rows) [] 0 7).1 = x.lens ∧ x.nc = trimO x.lens 15 := by
  subst hx h2 h3; unfold dynT; dsimp only; generalize tree (uext T V a).1 V (uext T V a).2 15 = l; generalize tree (usedT T).2 V l.2 15 = d; generalize trim l.1 257 29 = nl; generalize trim d.1 1 29 = nd; generalize rruns (l.1.take nl ++ d.1.take nd) V (l.1.take nl ++ d.1.take nd).length 0 d.2 = r; generalize (tree (used19 r.1) [] 0 7).1 = le; generalize trimO le 15 = nc; exact ⟨rfl, rfl, rfl, rfl, rfl, rfl, rfl, rfl⟩
theorem ustep_len (u : List Nat × List Nat) (t : T3) : (ustep u t).1.length = u.1.length ∧ (ustep u t).2.length = u.2.length := by
  unfold ustep; split <;> simp
theorem usteps_len : ∀ (T : List T3) (u : List Nat × List Nat), (T.foldl ustep u).1.length = u.1.length ∧ (T.foldl ustep u).2.length = u.2.length
  | [], u => ⟨rfl, rfl⟩
  | t :: T, u => by
    have h1 := usteps_len T (ustep u t); have h2 := ustep_len u t; exact ⟨by rw [List.foldl_cons, h1.1, h2.1], by rw [List.foldl_cons, h1.2, h2.2]⟩
theorem usedT_len (T : List T3) : (usedT T).1.length = 286 ∧ (usedT T).2.length = 30 := by
  have := usteps_len T u0; exact ⟨by unfold usedT; rw [this.1]; simp [u0], by unfold usedT; rw [this.2]; simp [u0]⟩
theorem uext_ok (T : List T3) (V : List Int) (a : Nat) : (uext T V a).1.length = 286 ∧ a ≤ (uext T V a).2 ∧ (uext T V a).2 ≤ a + 2 := by
  have := (usedT_len T).1; unfold uext; split
  · exact ⟨by simp only [List.length_set]; exact this, by simp only; omega, Nat.le_refl _⟩
  · exact ⟨this, by simp only; omega, by simp only; omega⟩
theorem tree_ok {U : List Nat} {V : List Int} {a most : Nat} (hU : U.length ≤ 320) : (tree U V a most).1.length = U.length ∧ (∀ x ∈ (tree U V a most).1, x ≤ 13) ∧ a ≤ (tree U V a most).2 ∧ (tree U V a most).2 ≤ a + 5 := by
  have h5 := nxt_lt V a (most := 5) (by decide); have hst : TSt U.length (List.replicate U.length 0, tsel U U.length, 0, a + 1) := ⟨List.length_replicate, fun s hs => tsel_lt hs, tsel_len U _, fun x hx => by rw [(List.mem_replicate.1 hx).2]; decide, Nat.zero_le _⟩; obtain ⟨h1, h2, h3⟩ := tskew_st (V := V) (most := most) (nxt V a 5) _ hst (by dsimp only; omega); obtain ⟨g1, g2⟩ := tree2_ok h1 hU; unfold tree
  dsimp only at h2 h3; exact ⟨g1, g2, by show a ≤ (tskew V most _ _).2.2.2; omega, by show (tskew V most _ _).2.2.2 ≤ _; omega⟩
theorem used19_len : ∀ (T : List T3) (u : List Nat), (T.foldl (fun u t => u.set t.1 1) u).length = u.length
  | [], u => rfl
  | t :: T, u => by rw [List.foldl_cons, used19_len T]; exact List.length_set
structure DynOk (x : DynT) (a : Nat) : Prop where
  l1 : x.LL.length = 286
  l2 : x.DD.length = 30
  b1 : ∀ y ∈ x.LL, y ≤ 13
  b2 : ∀ y ∈ x.DD, y ≤ 13
  nl : 257 ≤ x.nl ∧ x.nl ≤ 286
  nd : 1 ≤ x.nd ∧ x.nd ≤ 30
  ro : ∀ t ∈ x.rows, RunOk t
  rl : x.rows.length ≤ 316
  le : a ≤ x.a ∧ x.a ≤ a + 1000
  l3 : x.lens.length = 19
  b3 : ∀ y ∈ x.lens, y ≤ 13
  nc : 4 ≤ x.nc ∧ x.nc ≤ 19
theorem dynT_ok (T : List T3) (V : List Int) (a : Nat) : DynOk (dynT T V a) a := by
  obtain ⟨e1, e2, e3⟩ := uext_ok T V a; have e4 := (usedT_len T).2; unfold dynT; dsimp only; generalize uext T V a = u at *; obtain ⟨f1, f2, f3, f4⟩ := tree_ok (U := u.1) (V := V) (a := u.2) (most := 15) (by omega); generalize tree u.1 V u.2 15 = l at *; obtain ⟨g1, g2, g3, g4⟩ := tree_ok (U := (usedT T).2) (V := V) (a := l.2) (most := 15) (by omega); generalize tree (usedT T).2 V l.2 15 = d at *
  have h1 := trim_bd l.1 257 29; have h2 := trim_bd d.1 1 29; generalize trim l.1 257 29 = nl at *; generalize trim d.1 1 29 = nd at *; have hl : (l.1.take nl ++ d.1.take nd).length ≤ 316 := by simp only [List.length_append, List.length_take]; omega
  have h15 : ∀ y ∈ l.1.take nl ++ d.1.take nd, y ≤ 15 := fun y hy => by
    rcases List.mem_append.1 hy with h | h
    · have := f2 y (List.mem_of_mem_take h); omega
    · have := g2 y (List.mem_of_mem_take h); omega
  obtain ⟨k1, k2, k3, k4⟩ := rruns_ok h15 V (l.1.take nl ++ d.1.take nd).length 0 d.2 (Nat.zero_le _); generalize rruns (l.1.take nl ++ d.1.take nd) V (l.1.take nl ++ d.1.take nd).length 0 d.2 = r at *; have hu : (used19 r.1).length = 19 := by unfold used19; rw [used19_len]; exact List.length_replicate
  obtain ⟨m1, m2, _, _⟩ := tree_ok (U := used19 r.1) (V := []) (a := 0) (most := 7) (by omega); have hnc := trimO_bd (tree (used19 r.1) [] 0 7).1 15; exact ⟨by dsimp only; omega, by dsimp only; omega, f2, g2, by dsimp only; omega, by dsimp only; omega, k1, by dsimp only; omega, by dsimp only; omega, by dsimp only; omega, m2, by dsimp only; omega⟩
theorem wlens_ok {L : List Nat} : ∀ (O : List Nat) {s : WS}, WOk s → WOk (wlens L O s) ∧ (wlens L O s).2 = s.2 + 3 * O.length
  | [], s, h => ⟨h, rfl⟩
  | o :: r, s, h => by
    obtain ⟨a1, a2⟩ := wlens_ok r (wbits_ok h (L.getD o 0) 3); exact ⟨a1, by rw [wlens, a2, wbits_at, List.length_cons]; omega⟩
theorem wruns_ok {C L : List Nat} (hL : ∀ x ∈ L, x ≤ 13) : ∀ (T : List T3) {s : WS}, WOk s → (∀ t ∈ T, RunOk t) → WOk (T.foldl (wrun C L) s) ∧ s.2 ≤ (T.foldl (wrun C L) s).2 ∧ (T.foldl (wrun C L) s).2 ≤ s.2 + 20 * T.length
  | [], s, h, _ => ⟨h, Nat.le_refl _, Nat.le_refl _⟩
  | t :: T, s, h, ht => by
    have h1 := ht t (by simp)
    have h2 : L.getD t.1 0 ≤ 13 := by
      rcases Nat.lt_or_ge t.1 L.length with h | h
      · rw [List.getD_eq_getElem?_getD, List.getElem?_eq_getElem h]; exact hL _ (List.getElem_mem h)
      · rw [List.getD_eq_getElem?_getD, List.getElem?_eq_none h]; simp
    have h3 := h1.2.2; have hw : WOk (wrun C L s t) := wbits_ok (wcode_ok _ h) _ _; have ha : (wrun C L s t).2 = s.2 + L.getD t.1 0 + t.2.2 := by unfold wrun; rw [wbits_at, wcode_at]
    obtain ⟨b1, b2, b3⟩ := wruns_ok hL T hw fun u hu => ht u (by simp [hu]); exact ⟨b1, by rw [List.foldl_cons]; omega, by rw [List.foldl_cons, List.length_cons]; omega⟩
theorem wdyn_ok {T : List T3} {V : List Int} {a : Nat} {s : WS} (h : WOk s) (hT : ∀ t ∈ T, TokOk t) : WOk (wdyn T V a s).1 ∧ s.2 ≤ (wdyn T V a s).1.2 ∧ (wdyn T V a s).1.2 ≤ s.2 + 48 * T.length + 7000 ∧ a ≤ (wdyn T V a s).2 ∧ (wdyn T V a s).2 ≤ a + 1000 := by
  have hx := dynT_ok T V a; show WOk (wdynT (dynT T V a) T s) ∧ s.2 ≤ (wdynT (dynT T V a) T s).2 ∧ (wdynT (dynT T V a) T s).2 ≤ _ ∧ a ≤ (dynT T V a).a ∧ (dynT T V a).a ≤ _
  generalize dynT T V a = x at *; have w1 := wbits_ok (wbits_ok (wbits_ok h (x.nl - 257) 5) (x.nd - 1) 5) (x.nc - 4) 4; have a1 : (wbits (wbits (wbits s (x.nl - 257) 5) (x.nd - 1) 5) (x.nc - 4) 4).2 = s.2 + 14 := by rw [wbits_at, wbits_at, wbits_at]
  obtain ⟨w2, a2⟩ := wlens_ok (L := x.lens) (orderL.take x.nc) w1; have hol : (orderL.take x.nc).length ≤ 19 := by rw [List.length_take]; have := hx.nc; omega
  obtain ⟨w3, a3, a4⟩ := wruns_ok (C := codesL x.lens) hx.b3 x.rows w2 hx.ro; obtain ⟨w4, a5, a6⟩ := wbody_ok (L1 := x.LL) (L2 := x.DD) w3 hT (fun y hy => by have := hx.b1 y hy; omega) (fun y hy => by have := hx.b2 y hy; omega); have := hx.rl; unfold wdynT; exact ⟨w4, by omega, by omega, hx.le.1, hx.le.2⟩
end Pu
end Go.Proofs.YtpbahgddoamhgaaGreatDoor
namespace Go.Proofs.YtpbahgddoamhgaaGreatDoor
open Go.Proofs.Tryz
open Go Sx Pu
set_option maxRecDepth 10000

theorem hsub_end {X Hr D G : Hl} {a c d e : Nat × Obj} {b : Nat} {o : Obj} : HSub (X ++ (a :: (b, o) :: c :: d :: e :: (Hr ++ (D ++ G)))) ((b, o) :: (D ++ G)) (X ++ (a :: c :: d :: e :: Hr)) :=
  .app (.cons (.there .here) (.skip (.skip (.skip (.skip .behind)))))
theorem DatT.cons {p : Option Addr} {L : List T3} {D : Hl} (h : DatT p L D) (x : Nat × Obj) : DatT p L (x :: D) := h.app [x]
section
variable {D : Hl} {cb at_ most capl capu n : Nat} {pl pu : Option Addr} {V : List Int} {U : List Nat}
theorem tree_m (hn : U.length = n) (hd : DatV bf pu U D) (hU : 0 < n) (hU2 : n ≤ 320) (hz : DatZ pl V D) (hV : ZW V) (hvl : V.length < 2 ^ 62) (ha : at_ < 2 ^ 60) (hm : most ≤ 15) :
    CallsL Tryz.prog 48 #[.slice pu n capu, .pointer (some ⟨cb, 0, none⟩), iV most] ((cb, chO pl V.length capl at_) :: D) fun v H' => ∃ ob G, v = .slice (some ⟨ob, 0, none⟩) n n ∧
      H' = G ++ ((ob, .cells (List.toArray ((tree U V at_ most).1.map iV)) 3 (0, 0)) :: (cb, chO pl V.length capl (tree U V at_ most).2) :: D) := by
  subst hn; exact tree_spec hd hU hU2 hz hV hvl ha hm
theorem codes_m {p : Option Addr} {cap m : Nat} {L : List Nat} (hn : L.length = m) (hd : DatI p L D) (hL : m ≤ 320) :
    CallsL Tryz.prog 44 #[.slice p m cap] D fun v H' => ∃ b, v = .slice (some ⟨b, 0, none⟩) m m ∧ H' = (b, .cells (List.toArray ((codesL L).map iV)) 3 (0, 0)) :: D := by
  subst hn; exact codes_spec hd hL
theorem body_m {Dd : Hl} {w cap1 cap2 capT m1 m2 : Nat} {pT p1 p2 : Option Addr} {T : List T3} {L1 L2 : List Nat} {s : WS} {G : Hl} (hm1 : L1.length = m1) (hm2 : L2.length = m2)
    (hT : DatT pT T Dd) (hTo : ∀ t ∈ T, TokOk t) (hTl : T.length < 2 ^ 32) (h1 : DatI p1 L1 Dd) (h1l : 286 ≤ m1 ∧ m1 ≤ 320) (h115 : ∀ x ∈ L1, x ≤ 15) (h2 : DatI p2 L2 Dd) (h2l : 30 ≤ m2 ∧ m2 ≤ 320) (h215 : ∀ x ∈ L2, x ≤ 15)
    (hw : WOk s) (hG : WH w s G) (hb : s.1.length < 2 ^ 44) :
    CallsL Tryz.prog 35 #[.pointer (some ⟨w, 0, none⟩), .slice pT T.length capT, .slice p1 m1 cap1, .slice p2 m2 cap2] (Dd ++ G) fun _ H' => ∃ X G', WH w (wbody L1 L2 T s) G' ∧ H' = X ++ (Dd ++ G') := by
  subst hm1 hm2; exact body_spec hT hTo hTl h1 h1l h115 h2 h2l h215 hw hG hb
end
section
variable {D : Hl} {w cb a capl capT : Nat} {pT pl : Option Addr} {T : List T3} {V : List Int} {s : WS} {G : Hl}
set_option maxHeartbeats 1500000 in
theorem wdynamic_spec (hT : DatT pT T D) (hTo : ∀ t ∈ T, TokOk t) (hTl : T.length < 2 ^ 32) (hz : DatZ pl V D) (hV : ZW V) (hvl : V.length < 2 ^ 62) (ha : a < 2 ^ 59) (hw : WOk s) (hG : WH w s G) (hb : s.1.length < 2 ^ 43) :
    CallsL Tryz.prog 36 #[.pointer (some ⟨w, 0, none⟩), .slice pT T.length capT, .pointer (some ⟨cb, 0, none⟩)] ((cb, chO pl V.length capl a) :: (D ++ G)) fun _ H' => ∃ X G', WH w (wdyn T V a s).1 G' ∧ HSub H' ((cb, chO pl V.length capl (wdyn T V a s).2) :: (D ++ G')) X := by
  obtain ⟨x, hxd⟩ : ∃ x, dynT T V a = x := ⟨_, rfl⟩; have hx := dynT_ok T V a; rw [hxd] at hx; obtain ⟨a3, e3⟩ : ∃ a3, (tree (usedT T).2 V (tree (uext T V a).1 V (uext T V a).2 15).2 15).2 = a3 := ⟨_, rfl⟩; obtain ⟨a2, e1b⟩ : ∃ a2, (tree (uext T V a).1 V (uext T V a).2 15).2 = a2 := ⟨_, rfl⟩; obtain ⟨e1, e2, e4, e5, e6, e6b, e7, e8⟩ := dynT_eq hxd e1b (e1b ▸ e3); rw [e1b] at e3
  have hxa : (wdyn T V a s).2 = x.a := by unfold wdyn; rw [hxd]
  have hfin : wdynT x T s = wbody x.LL x.DD T (x.rows.foldl (wrun (codesL x.lens) x.lens) (wlens x.lens (orderL.take x.nc) (wbits (wbits (wbits s (x.nl - 257) 5) (x.nd - 1) 5) (x.nc - 4) 4))) := rfl
  have h15r : ∀ y ∈ x.LL.take x.nl ++ x.DD.take x.nd, y ≤ 15 := fun y hy => by
    rcases List.mem_append.1 hy with h | h
    · have := hx.b1 y (List.mem_of_mem_take h); omega
    · have := hx.b2 y (List.mem_of_mem_take h); omega
  have ha3 : a3 ≤ a + 20 := by
    obtain ⟨_, _, v3⟩ := uext_ok T V a; obtain ⟨v1, _, _⟩ := uext_ok T V a; have w2 := (usedT_len T).2; have y1 := (tree_ok (U := (uext T V a).1) (V := V) (a := (uext T V a).2) (most := 15) (by omega)).2.2.2; have y2 := (tree_ok (U := (usedT T).2) (V := V) (a := a2) (most := 15) (by omega)).2.2.2; omega
  have hsl := hw.le; have hsl2 := hw.lt; have hxl1 := hx.l1; have hxl2 := hx.l2; refine CallsL_of func36 rfl ntmps36 rfl ?_; try dsimp only [initE, Nat.zero_add]
  refine W_seq_mid (fun E H => ∃ lb db, Sub E [(0, .pointer (some ⟨w, 0, none⟩)), (1, .slice pT T.length capT), (2, .pointer (some ⟨cb, 0, none⟩)), (6, .slice (some ⟨lb, 0, none⟩) 286 286), (7, .slice (some ⟨db, 0, none⟩) 30 30)] ∧ (H = (lb, Obj.cells (List.toArray (List.replicate 286 (Value.bool false))) 4 (0, 0)) :: (db, Obj.cells (List.toArray (List.replicate 30 (Value.bool false))) 4 (0, 0)) :: (cb, chO pl V.length capl a) :: (D ++ G) ∨ H = (db, Obj.cells (List.toArray (List.replicate 30 (Value.bool false))) 4 (0, 0)) :: (lb, Obj.cells (List.toArray (List.replicate 286 (Value.bool false))) 4 (0, 0)) :: (cb, chO pl V.length capl a) :: (D ++ G))) ?_ ?_
  · skip
    refine W_draw mixed ?_; refine WA_two (k := 0) (j := 1) rfl rfl (by kernel_rfl) ?_ ?_
    · skip
      refine ws (v_mk (bytes := 1) rfl underlying105 sizeOf4 typeInfo4 rfl zeroValue4 rfl rfl (by omega) (by omega) rfl rfl) rfl rfl rfl ?_; rintro _ _ ⟨lb, rfl, rfl, _⟩; refine WO_nil (sq_n ?_); refine ap 2 rfl (by kernel_rfl) (v_as rfl rfl) rfl rfl rfl ?_; refine WA_one (k := 1) rfl (by kernel_rfl) ?_
      refine ws (v_mk (bytes := 1) rfl underlying105 sizeOf4 typeInfo4 rfl zeroValue4 rfl rfl (by omega) (by omega) rfl rfl) rfl rfl rfl ?_; rintro _ _ ⟨db, rfl, rfl, _⟩; refine WO_nil (sq_n ?_); refine WA_k (fuel := 0) [3] rfl (by kernel_rfl) ?_; refine yp rfl (v_as rfl rfl) rfl ?_; refine WK_nil ?_; refine WA_nil (by kernel_rfl) (sq_n (?_)); first
      | exact ⟨lb, db, ⟨rfl, rfl, rfl, rfl, rfl, trivial⟩, .inl rfl⟩
      | exact ⟨lb, db, ⟨rfl, rfl, rfl, rfl, rfl, trivial⟩, .inr rfl⟩
    · skip
      refine ws (v_mk (bytes := 1) rfl underlying105 sizeOf4 typeInfo4 rfl zeroValue4 rfl rfl (by omega) (by omega) rfl rfl) rfl rfl rfl ?_; rintro _ _ ⟨db, rfl, rfl, _⟩; refine WO_nil (sq_n ?_); refine WA_one (k := 0) rfl (by kernel_rfl) ?_; refine ws (v_mk (bytes := 1) rfl underlying105 sizeOf4 typeInfo4 rfl zeroValue4 rfl rfl (by omega) (by omega) rfl rfl) rfl rfl rfl ?_; rintro _ _ ⟨lb, rfl, rfl, _⟩
      refine WO_nil (sq_n ?_); refine WA_k (fuel := 0) [2,3] rfl (by kernel_rfl) ?_; refine yp rfl (v_as rfl rfl) rfl ?_; refine yp rfl (v_as rfl rfl) rfl ?_; refine WK_nil ?_; refine WA_nil (by kernel_rfl) (sq_n (?_)); first
      | exact ⟨lb, db, ⟨rfl, rfl, rfl, rfl, rfl, trivial⟩, .inl rfl⟩
      | exact ⟨lb, db, ⟨rfl, rfl, rfl, rfl, rfl, trivial⟩, .inr rfl⟩
  · rintro E H ⟨lb, db, hE, hH⟩; refine W.env hE ?_; refine W.drop (H' := (lb, .cells (List.toArray ((List.replicate 286 0).map bf)) 4 (0, 0)) :: (db, .cells (List.toArray ((List.replicate 30 0).map bf)) 4 (0, 0)) :: (cb, chO pl V.length capl a) :: (D ++ G)) (.of (H2 := []) ?_) ?_
    · rw [List.append_nil, List.map_replicate, List.map_replicate]; rcases hH with rfl | rfl
      · exact List.Perm.refl _
      · exact List.Perm.swap _ _ _
    refine W_seq fun K2 hK2 => ?_; refine W_region ?_; refine xm rfl rfl ?_; refine xp (v_ixs rfl underlying105 sizeOf4 rfl rfl (by omega)) rfl ?_; refine wst' rfl rfl rfl sizeOf4 rfl (List.map_set (f := bf) (a := 1)).symm (by rw [List.length_map, List.length_replicate]; decide) rfl rfl ?_; refine WO_nil (sq_n (hK2 _ _ ?_)); refine W_seq fun K3 hK3 => ?_; refine W_seq fun K4 hK4 => ?_; refine W_region ?_
    refine xm rfl rfl ?_; refine xp (v_len rfl underlying72 rfl) rfl ?_; refine xm rfl rfl ?_; refine WO_nil (sq_n (hK4 _ _ ?_)); refine W_block ?_
    refine W_loop (fun m E H => ∃ i u, i ≤ T.length ∧ m = T.length - i ∧ (T.drop i).foldl ustep u = usedT T ∧ u.1.length = 286 ∧ u.2.length = 30 ∧ Sub E [(0, .pointer (some ⟨w, 0, none⟩)), (1, .slice pT T.length capT), (2, .pointer (some ⟨cb, 0, none⟩)), (6, .slice (some ⟨lb, 0, none⟩) 286 286), (7, .slice (some ⟨db, 0, none⟩) 30 30), (32, .slice pT T.length capT), (33, iV T.length), (34, iV i)] ∧ H = (lb, .cells (List.toArray (u.1.map bf)) 4 (0, 0)) :: (db, .cells (List.toArray (u.2.map bf)) 4 (0, 0)) :: (cb, chO pl V.length capl a) :: (D ++ G)) (m := _) (⟨0, u0, Nat.zero_le _, rfl, rfl, by simp [u0], by simp [u0], ⟨rfl, rfl, rfl, rfl, rfl, rfl, rfl, rfl, trivial⟩, rfl⟩) ?_
    rintro m E H ⟨i, u, hi, rfl, hfo, hu1, hu2, hE, rfl⟩; refine W.env hE ?_; refine W_seq fun K5 hK5 => ?_; refine W_region ?_; refine xp (n_lt rfl rfl rfl) rfl ?_; refine WO_nil (sq_n (hK5 _ _ ?_)); refine W_seq fun K6 hK6 => ?_; refine W_cond rfl (fun hc0 => ?_) (fun hc0 => ?_)
    · replace hc0 := of_decide_eq_true hc0; obtain ⟨q3, k3, ty3, fz3, r3, rfl, hat3, hcc3⟩ := hT (by intro e; subst e; simp at hc0); obtain ⟨u1, u2, u3⟩ := hcc3 i hc0; have hti := hTo _ (List.getElem_mem hc0); rw [List.drop_eq_getElem_cons hc0, List.foldl_cons] at hfo; generalize T[i] = tt at *; obtain ⟨ta, tb, tc⟩ := tt; dsimp only at u1 u2 u3; have hat3 := AtH.appl (D := G) hat3; refine W_skip (sq_n (hK6 _ _ ?_))
      refine W_seq fun K7 hK7 => ?_; refine W_block ?_; refine W_seq fun K8 hK8 => ?_; refine W_region ?_; refine xp (v_ixs rfl underlying72 sizeOf101 rfl rfl (by omega)) rfl ?_
      refine wv (v_lda (z := 3) (vs := [iV ta, iV tb, iV tc]) rfl rfl isAgg101 sizeOf101 (AtH.there (h := AtH.there (h := AtH.there (h := hat3)))) rfl (fun j hj => by
        match j, hj with
        | 0, _ => rw [Nat.add_zero]; simpa using u1
        | 1, _ => simpa using u2
        | 2, _ => simpa using u3)) rfl rfl rfl ?_
      refine wf (v_ala rfl zv101) rfl rfl rfl ?_; intro tb0 _; refine wsn (v_sta (c' := [iV ta, iV tb, iV tc]) rfl rfl rfl sizeOf101 rfl (fun v hv => List.all_eq_true.1 (show List.all _ one = true from rfl) v hv) rfl (Nat.le_of_ble_eq_true rfl)) rfl rfl ?_; rintro _ _ ⟨rfl, rfl⟩; refine WO_nil (sq_n (hK8 _ _ ?_)); refine W_seq fun K9 hK9 => ?_; refine W_seq fun K10 hK10 => ?_; refine W_region ?_
      refine xp (v_fa (q := 1) rfl underlying101 rfl rfl sizeOf3 rfl) rfl ?_; refine xv (ld rfl rfl isAgg3) rfl ?_; refine xp (n_eq rfl rfl rfl) rfl ?_; refine WO_nil (sq_n (hK10 _ _ ?_)); refine W_cond rfl (fun hc1 => ?_) (fun hc1 => ?_)
      · replace hc1 := of_decide_eq_true hc1; have hta2 : ta < 256 := by rcases hti with h | h; exact h.2; exact absurd hc1 (by have := h.1; simp only at this; omega)
        refine W_seq fun K11 hK11 => ?_; refine W_region ?_; refine xm rfl rfl ?_; refine xp (v_fa (q := 0) rfl underlying101 rfl rfl sizeOf3 rfl) rfl ?_; refine xv (ld rfl rfl isAgg3) rfl ?_; refine xp (v_ixs rfl underlying105 sizeOf4 rfl rfl (by omega)) rfl ?_; refine wst' rfl rfl rfl sizeOf4 rfl (List.map_set (f := bf) (a := 1)).symm (by rw [List.length_map]; omega) rfl rfl ?_; refine WO_nil (sq_n (hK11 _ _ ?_))
        refine W_exit (sq_x (bl_x (sq_n (hK7 _ _ ?_)))); refine W.drop (.skip .all) ?_; refine W_region ?_; refine xp (n_add rfl rfl rfl kI (by omega)) rfl ?_; refine xm rfl rfl ?_; refine WO_nil (sq_n (?_)); first
        | (have hq : tb = 0 := hc1; exact ⟨T.length - (i + 1), by omega, i + 1, (u.1.set ta 1, u.2), by omega, rfl, by rw [← hfo]; unfold ustep; rw [if_pos hq], by simp only [List.length_set]; exact hu1, hu2, ⟨rfl, rfl, rfl, rfl, rfl, rfl, rfl, rfl, trivial⟩, rfl⟩)
        | (have hq : ¬ tb = 0 := hc1; exact ⟨T.length - (i + 1), by omega, i + 1, (u.1.set (lsym tc) 1, u.2.set (dsym tb) 1), by omega, rfl, by rw [← hfo]; unfold ustep; rw [if_neg hq], by simp only [List.length_set]; exact hu1, by simp only [List.length_set]; exact hu2, ⟨rfl, rfl, rfl, rfl, rfl, rfl, rfl, rfl, trivial⟩, rfl⟩)
      · replace hc1 := of_decide_eq_false hc1; obtain ⟨j1, j2, j3, j4⟩ : 1 ≤ tb ∧ tb ≤ 32768 ∧ 3 ≤ tc ∧ tc ≤ 258 := by rcases hti with h | h; exact absurd h.1 hc1; exact h
        have hls := lsym_bd j3; have hds := dsym_bd j1; refine W_skip (sq_n (hK9 _ _ ?_)); refine W_seq fun K12 hK12 => ?_; refine W_region ?_; refine xp (v_fa (q := 2) rfl underlying101 rfl rfl sizeOf3 rfl) rfl ?_; refine xv (ld rfl rfl isAgg3) rfl ?_; refine wc (e_c rfl rfl rfl call46) rfl rfl rfl (lengthSymbol_spec j3 j4) .nil ?_; rintro _ _ ⟨rfl, rfl⟩; (try simp only [ap4]); refine xm rfl rfl ?_
        refine xp (v_ex rfl rfl rfl) rfl ?_; refine xp (v_ex rfl rfl rfl) rfl ?_; refine xp (v_ex rfl rfl rfl) rfl ?_; refine xa rfl rfl ?_; refine xa rfl rfl ?_; refine xa rfl rfl ?_; refine WO_nil (sq_n (hK12 _ _ ?_)); refine W_seq fun K13 hK13 => ?_; refine W_region ?_; refine xm rfl rfl ?_; refine xm rfl rfl ?_; refine xp (v_ixs rfl underlying105 sizeOf4 rfl rfl (by omega)) rfl ?_
        refine wst' rfl rfl rfl sizeOf4 rfl (List.map_set (f := bf) (a := 1)).symm (by rw [List.length_map]; omega) rfl rfl ?_; refine WO_nil (sq_n (hK13 _ _ ?_)); refine W_seq fun K14 hK14 => ?_; refine W_region ?_; refine xp (v_fa (q := 1) rfl underlying101 rfl rfl sizeOf3 rfl) rfl ?_; refine xv (ld rfl rfl isAgg3) rfl ?_; refine wc (e_c rfl rfl rfl call47) rfl rfl rfl (distanceSymbol_spec j1 j2) .nil ?_
        rintro _ _ ⟨rfl, rfl⟩; (try simp only [ap4]); refine xm rfl rfl ?_; refine xp (v_ex rfl rfl rfl) rfl ?_; refine xp (v_ex rfl rfl rfl) rfl ?_; refine xp (v_ex rfl rfl rfl) rfl ?_; refine xa rfl rfl ?_; refine WO_nil (sq_n (hK14 _ _ ?_)); refine W.keep [0,1,2,6,7,32,33,34,35,36,37,9,38,39,40,46,47,48,45,49,50,51,52,53,54,56,57,58,55,59,10] rfl ?_; refine W_region ?_; refine xm rfl rfl ?_; refine xm rfl rfl ?_
        refine xp (v_ixs rfl underlying105 sizeOf4 rfl rfl (by omega)) rfl ?_; refine wst' rfl rfl rfl sizeOf4 rfl (List.map_set (f := bf) (a := 1)).symm (by rw [List.length_map]; omega) rfl rfl ?_; refine WO_nil (bl_n (sq_n (hK7 _ _ ?_))); refine W.drop (.skip .all) ?_; refine W_region ?_; refine xp (n_add rfl rfl rfl kI (by omega)) rfl ?_; refine xm rfl rfl ?_; refine WO_nil (sq_n (?_)); first
        | (have hq : tb = 0 := hc1; exact ⟨T.length - (i + 1), by omega, i + 1, (u.1.set ta 1, u.2), by omega, rfl, by rw [← hfo]; unfold ustep; rw [if_pos hq], by simp only [List.length_set]; exact hu1, hu2, ⟨rfl, rfl, rfl, rfl, rfl, rfl, rfl, rfl, trivial⟩, rfl⟩)
        | (have hq : ¬ tb = 0 := hc1; exact ⟨T.length - (i + 1), by omega, i + 1, (u.1.set (lsym tc) 1, u.2.set (dsym tb) 1), by omega, rfl, by rw [← hfo]; unfold ustep; rw [if_neg hq], by simp only [List.length_set]; exact hu1, by simp only [List.length_set]; exact hu2, ⟨rfl, rfl, rfl, rfl, rfl, rfl, rfl, rfl, trivial⟩, rfl⟩)
    · replace hc0 := of_decide_eq_false hc0; obtain rfl : i = T.length := by omega
      rw [List.drop_length] at hfo; obtain rfl : u = usedT T := hfo; refine W_exit (sq_x (sq_x (bl_x (sq_n (hK3 _ _ ?_))))); refine W.keep [0,1,2,6,7] rfl ?_
      refine W_seq_mid (fun E H => Sub E [(0, .pointer (some ⟨w, 0, none⟩)), (1, .slice pT T.length capT), (2, .pointer (some ⟨cb, 0, none⟩)), (6, .slice (some ⟨lb, 0, none⟩) 286 286), (7, .slice (some ⟨db, 0, none⟩) 30 30)] ∧ H = (lb, .cells (List.toArray ((uext T V a).1.map bf)) 4 (0, 0)) :: (db, .cells (List.toArray ((usedT T).2.map bf)) 4 (0, 0)) :: (cb, chO pl V.length capl (uext T V a).2) :: (D ++ G)) ?_ ?_
      · skip
        refine W_seq fun K16 hK16 => ?_; refine W_region ?_; refine xm rfl rfl ?_; refine wc (e_c rfl rfl rfl call30) rfl rfl rfl (next_spec (hz.appl G) hV (by decide) (by decide) (by omega) hvl) (.skip (.skip .all)) ?_; rintro _ _ ⟨rfl, rfl⟩; (try simp only [ap4]); refine xp (n_eq rfl rfl rfl) rfl ?_; refine WO_nil (sq_n (hK16 _ _ ?_)); refine W_cond rfl (fun hc2 => ?_) (fun hc2 => ?_)
        · replace hc2 := of_decide_eq_true hc2; have hn286 := nxt_lt V (a + 1) (most := 286) (by decide); refine W_region ?_; refine xm rfl rfl ?_; refine xm rfl rfl ?_; refine wc (e_c rfl rfl rfl call30) rfl rfl rfl (next_spec (hz.appl G) hV (by decide) (by decide) (by omega) hvl) (.skip (.skip .all)) ?_; rintro _ _ ⟨rfl, rfl⟩; (try simp only [ap4])
          refine xp (v_ixs rfl underlying105 sizeOf4 rfl rfl (by omega)) rfl ?_; refine wst' rfl rfl rfl sizeOf4 rfl (List.map_set (f := bf) (a := 1)).symm (by rw [List.length_map]; omega) rfl rfl ?_; refine WO_nil (sq_n (?_)); unfold uext; first
          | (have hq : nxt V a 2 = 0 := hc2; rw [if_pos hq]; exact ⟨⟨rfl, rfl, rfl, rfl, rfl, trivial⟩, rfl⟩)
          | (have hq : ¬ nxt V a 2 = 0 := hc2; rw [if_neg hq]; exact ⟨⟨rfl, rfl, rfl, rfl, rfl, trivial⟩, rfl⟩)
        · replace hc2 := of_decide_eq_false hc2; refine W_skip (sq_n (?_)); unfold uext; first
          | (have hq : nxt V a 2 = 0 := hc2; rw [if_pos hq]; exact ⟨⟨rfl, rfl, rfl, rfl, rfl, trivial⟩, rfl⟩)
          | (have hq : ¬ nxt V a 2 = 0 := hc2; rw [if_neg hq]; exact ⟨⟨rfl, rfl, rfl, rfl, rfl, trivial⟩, rfl⟩)
      · rintro E H ⟨hE, rfl⟩; refine W.env hE ?_; obtain ⟨v1, v2, v3⟩ := uext_ok T V a; obtain ⟨y1, y2, y3, y4⟩ := tree_ok (U := (uext T V a).1) (V := V) (a := (uext T V a).2) (most := 15) (by omega); have w2 := (usedT_len T).2; refine W_seq fun K17 hK17 => ?_; refine W_region ?_; refine xm rfl rfl ?_; refine xm rfl rfl ?_
        refine wc (e_c rfl rfl rfl call48) rfl rfl rfl (tree_m v1 datV_row (by decide) (by decide) (((hz.appl G).cons _).cons _) hV hvl (by omega) (by decide)) (.cons (.there (.there .here)) .all) ?_; rintro _ _ ⟨ob, G1, rfl, rfl⟩; rw [e1, e1b]; (try simp only [ap4]); refine xm rfl rfl ?_; refine xm rfl rfl ?_
        refine wc (e_c rfl rfl rfl call48) rfl rfl rfl (tree_m w2 (((datV_row.cons _).cons _).app G1) (by decide) (by decide) (((((hz.appl G).cons _).cons _).cons _).app G1) hV hvl (by omega) (by decide)) (.cons (.app (.there .here)) .all) ?_; rintro _ _ ⟨ob2, G2, rfl, rfl⟩; rw [e2, e3]; (try simp only [ap4]); refine xa rfl rfl ?_; refine xa rfl rfl ?_; refine WO_nil (sq_n (hK17 _ _ ?_))
        refine W.keep [0,1,2,13,14] rfl ?_; refine W_seq fun K18 hK18 => ?_; refine W.drop (H' := (cb, chO pl V.length capl a3) :: (ob, _) :: (ob2, _) :: (D ++ G)) (.cons (.app (.there .here)) (.cons (.app (.there (.app .here))) (.cons (.app .here) (.app (.app (.skip (.skip .all))))))) ?_; refine W_region ?_; refine xa rfl rfl ?_; refine xa rfl rfl ?_; refine WO_nil (sq_n (hK18 _ _ ?_))
        refine W_seq_mid (fun E H => Sub E [(0, .pointer (some ⟨w, 0, none⟩)), (1, .slice pT T.length capT), (2, .pointer (some ⟨cb, 0, none⟩)), (13, .slice (some ⟨ob, 0, none⟩) 286 286), (14, .slice (some ⟨ob2, 0, none⟩) 30 30), (15, iV x.nl), (16, iV 30)] ∧ H = (cb, chO pl V.length capl a3) :: (ob, .cells (List.toArray (x.LL.map iV)) 3 (0, 0)) :: (ob2, .cells (List.toArray (x.DD.map iV)) 3 (0, 0)) :: (D ++ G)) ?_ ?_
        · skip
          refine W_block ?_
          refine W_loop (fun m E H => ∃ k, k ≤ 29 ∧ k = m ∧ trim x.LL 257 k = x.nl ∧ Sub E [(0, .pointer (some ⟨w, 0, none⟩)), (1, .slice pT T.length capT), (2, .pointer (some ⟨cb, 0, none⟩)), (13, .slice (some ⟨ob, 0, none⟩) 286 286), (14, .slice (some ⟨ob2, 0, none⟩) 30 30), (15, iV (257 + k)), (16, iV 30)] ∧ H = (cb, chO pl V.length capl a3) :: (ob, .cells (List.toArray (x.LL.map iV)) 3 (0, 0)) :: (ob2, .cells (List.toArray (x.DD.map iV)) 3 (0, 0)) :: (D ++ G)) (m := _) (⟨29, Nat.le_refl _, rfl, e4.symm, ⟨rfl, rfl, rfl, rfl, rfl, rfl, rfl, trivial⟩, rfl⟩) ?_
          rintro m E H ⟨k, hk, rfl, htr, hE, rfl⟩; refine W.env hE ?_; refine W_seq fun K20 hK20 => ?_; refine W_seq fun K21 hK21 => ?_; by_cases hk1 : 0 < k
          · skip
            by_cases hk2 : x.LL.getD (257 + k - 1) 0 = 0
            · skip
              refine W_region ?_; refine xm rfl rfl ?_; refine xp (v_gt rfl rfl rfl (dT (by omega))) rfl ?_; refine xm rfl rfl ?_; refine xm rfl rfl ?_; refine xm rfl rfl ?_; refine xp (n_sub rfl rfl rfl kI (by omega) (by omega)) rfl ?_; refine xp (v_ixs rfl underlying23 sizeOf3 rfl rfl (by omega)) rfl ?_; refine xv (v_ld rfl rfl isAgg3 (ints_at (by omega))) rfl ?_; refine xp (v_eq rfl rfl rfl (dT (by omega))) rfl ?_
              refine xp (v_pt rfl rfl rfl) rfl ?_; refine WO_nil (sq_n (hK21 _ _ ?_)); refine W_cond_t rfl ?_; refine W_skip (sq_n (hK20 _ _ ?_)); refine W_block ?_; refine W_region ?_; refine xm rfl rfl ?_; refine xp (n_sub rfl rfl rfl kI (by omega) (by omega)) rfl ?_; refine xa rfl rfl ?_; refine WO_nil (bl_n (sq_n (?_))); obtain ⟨k, rfl⟩ : ∃ j, k = j + 1 := ⟨k - 1, by omega⟩
              rw [trim, if_pos (by rw [← hk2]; congr 1)] at htr; exact ⟨k, by omega, k, by omega, rfl, htr, ⟨rfl, rfl, rfl, rfl, rfl, rfl, rfl, trivial⟩, rfl⟩
            · have hst : x.nl = 257 + k := by
                rw [← htr]
                cases k with
                | zero => rfl
                | succ k => rw [trim, if_neg (fun e => hk2 (by rw [← e]; congr 1))]; omega
              refine W_region ?_; refine xm rfl rfl ?_; refine xp (v_gt rfl rfl rfl (dT (by omega))) rfl ?_; refine xm rfl rfl ?_; refine xm rfl rfl ?_; refine xm rfl rfl ?_; refine xp (n_sub rfl rfl rfl kI (by omega) (by omega)) rfl ?_; refine xp (v_ixs rfl underlying23 sizeOf3 rfl rfl (by omega)) rfl ?_; refine xv (v_ld rfl rfl isAgg3 (ints_at (by omega))) rfl ?_; refine xp (v_eq rfl rfl rfl (dF (by omega))) rfl ?_
              refine xp (v_pt rfl rfl rfl) rfl ?_; refine WO_nil (sq_n (hK21 _ _ ?_)); refine W_cond_f rfl ?_; refine W_exit (sq_x (sq_x (bl_x (sq_n (?_))))); rw [hst]; exact ⟨⟨rfl, rfl, rfl, rfl, rfl, rfl, rfl, trivial⟩, rfl⟩
          · have hst : x.nl = 257 + k := by
              obtain rfl : k = 0 := by omega
              exact htr.symm
            refine W_region ?_; refine xm rfl rfl ?_; refine xp (v_gt rfl rfl rfl (dF (by omega))) rfl ?_; refine xm rfl rfl ?_; refine xno rfl ?_; refine xno rfl ?_; refine xno rfl ?_; refine xno rfl ?_; refine xno rfl ?_; refine xno rfl ?_; refine xp (v_pf rfl rfl rfl) rfl ?_; refine WO_nil (sq_n (hK21 _ _ ?_)); refine W_cond_f rfl ?_; refine W_exit (sq_x (sq_x (bl_x (sq_n (?_))))); rw [hst]
            exact ⟨⟨rfl, rfl, rfl, rfl, rfl, rfl, rfl, trivial⟩, rfl⟩
        · rintro E H ⟨hE, rfl⟩; refine W.env hE ?_
          refine W_seq_mid (fun E H => Sub E [(0, .pointer (some ⟨w, 0, none⟩)), (1, .slice pT T.length capT), (2, .pointer (some ⟨cb, 0, none⟩)), (13, .slice (some ⟨ob, 0, none⟩) 286 286), (14, .slice (some ⟨ob2, 0, none⟩) 30 30), (15, iV x.nl), (16, iV x.nd)] ∧ H = (cb, chO pl V.length capl a3) :: (ob, .cells (List.toArray (x.LL.map iV)) 3 (0, 0)) :: (ob2, .cells (List.toArray (x.DD.map iV)) 3 (0, 0)) :: (D ++ G)) ?_ ?_
          · skip
            refine W_block ?_
            refine W_loop (fun m E H => ∃ k, k ≤ 29 ∧ k = m ∧ trim x.DD 1 k = x.nd ∧ Sub E [(0, .pointer (some ⟨w, 0, none⟩)), (1, .slice pT T.length capT), (2, .pointer (some ⟨cb, 0, none⟩)), (13, .slice (some ⟨ob, 0, none⟩) 286 286), (14, .slice (some ⟨ob2, 0, none⟩) 30 30), (15, iV x.nl), (16, iV (1 + k))] ∧ H = (cb, chO pl V.length capl a3) :: (ob, .cells (List.toArray (x.LL.map iV)) 3 (0, 0)) :: (ob2, .cells (List.toArray (x.DD.map iV)) 3 (0, 0)) :: (D ++ G)) (m := _) (⟨29, Nat.le_refl _, rfl, e5.symm, ⟨rfl, rfl, rfl, rfl, rfl, rfl, rfl, trivial⟩, rfl⟩) ?_
            rintro m E H ⟨k, hk, rfl, htr, hE, rfl⟩; refine W.env hE ?_; refine W_seq fun K23 hK23 => ?_; refine W_seq fun K24 hK24 => ?_; by_cases hk1 : 0 < k
            · skip
              by_cases hk2 : x.DD.getD (1 + k - 1) 0 = 0
              · skip
                refine W_region ?_; refine xm rfl rfl ?_; refine xp (v_gt rfl rfl rfl (dT (by omega))) rfl ?_; refine xm rfl rfl ?_; refine xm rfl rfl ?_; refine xm rfl rfl ?_; refine xp (n_sub rfl rfl rfl kI (by omega) (by omega)) rfl ?_; refine xp (v_ixs rfl underlying23 sizeOf3 rfl rfl (by omega)) rfl ?_; refine xv (v_ld rfl rfl isAgg3 (ints_at (by omega))) rfl ?_
                refine xp (v_eq rfl rfl rfl (dT (by omega))) rfl ?_; refine xp (v_pt rfl rfl rfl) rfl ?_; refine WO_nil (sq_n (hK24 _ _ ?_)); refine W_cond_t rfl ?_; refine W_skip (sq_n (hK23 _ _ ?_)); refine W_block ?_; refine W_region ?_; refine xm rfl rfl ?_; refine xp (n_sub rfl rfl rfl kI (by omega) (by omega)) rfl ?_; refine xa rfl rfl ?_; refine WO_nil (bl_n (sq_n (?_)))
                obtain ⟨k, rfl⟩ : ∃ j, k = j + 1 := ⟨k - 1, by omega⟩; rw [trim, if_pos (by rw [← hk2]; congr 1)] at htr; exact ⟨k, by omega, k, by omega, rfl, htr, ⟨rfl, rfl, rfl, rfl, rfl, rfl, rfl, trivial⟩, rfl⟩
              · have hst : x.nd = 1 + k := by
                  rw [← htr]
                  cases k with
                  | zero => rfl
                  | succ k => rw [trim, if_neg (fun e => hk2 (by rw [← e]; congr 1))]; omega
                refine W_region ?_; refine xm rfl rfl ?_; refine xp (v_gt rfl rfl rfl (dT (by omega))) rfl ?_; refine xm rfl rfl ?_; refine xm rfl rfl ?_; refine xm rfl rfl ?_; refine xp (n_sub rfl rfl rfl kI (by omega) (by omega)) rfl ?_; refine xp (v_ixs rfl underlying23 sizeOf3 rfl rfl (by omega)) rfl ?_; refine xv (v_ld rfl rfl isAgg3 (ints_at (by omega))) rfl ?_
                refine xp (v_eq rfl rfl rfl (dF (by omega))) rfl ?_; refine xp (v_pt rfl rfl rfl) rfl ?_; refine WO_nil (sq_n (hK24 _ _ ?_)); refine W_cond_f rfl ?_; refine W_exit (sq_x (sq_x (bl_x (sq_n (?_))))); rw [hst]; exact ⟨⟨rfl, rfl, rfl, rfl, rfl, rfl, rfl, trivial⟩, rfl⟩
            · have hst : x.nd = 1 + k := by
                obtain rfl : k = 0 := by omega
                exact htr.symm
              refine W_region ?_; refine xm rfl rfl ?_; refine xp (v_gt rfl rfl rfl (dF (by omega))) rfl ?_; refine xm rfl rfl ?_; refine xno rfl ?_; refine xno rfl ?_; refine xno rfl ?_; refine xno rfl ?_; refine xno rfl ?_; refine xno rfl ?_; refine xp (v_pf rfl rfl rfl) rfl ?_; refine WO_nil (sq_n (hK24 _ _ ?_)); refine W_cond_f rfl ?_; refine W_exit (sq_x (sq_x (bl_x (sq_n (?_))))); rw [hst]
              exact ⟨⟨rfl, rfl, rfl, rfl, rfl, rfl, rfl, trivial⟩, rfl⟩
          · rintro E H ⟨hE, rfl⟩; refine W.env hE ?_; obtain ⟨n1, n2⟩ := hx.nl; obtain ⟨n3, n4⟩ := hx.nd; have hlt1 : (x.LL.take x.nl).length = x.nl := by rw [List.length_take, hx.l1]; omega
            have hlt2 : (x.DD.take x.nd).length = x.nd := by rw [List.length_take, hx.l2]; omega
            refine W_seq fun K25 hK25 => ?_; refine W_draw mixed ?_; refine ap 1 rfl (by kernel_rfl) (v_mv rfl rfl) rfl rfl rfl ?_; refine ap 2 rfl (by kernel_rfl) (v_mv rfl rfl) rfl rfl rfl ?_; refine ap 3 rfl (by kernel_rfl) (v_slp rfl underlying23 sizeOf3 rfl .none (.some rfl) .none (by omega) (by omega) (by omega) (by decide)) rfl rfl rfl ?_; refine ap 5 rfl (by kernel_rfl) (v_mv rfl rfl) rfl rfl rfl ?_
            refine ap 6 rfl (by kernel_rfl) (v_mv rfl rfl) rfl rfl rfl ?_; refine ap 7 rfl (by kernel_rfl) (v_slp rfl underlying23 sizeOf3 rfl .none (.some rfl) .none (by omega) (by omega) (by omega) (by decide)) rfl rfl rfl ?_; refine ap 9 rfl (by kernel_rfl) (v_mv rfl rfl) rfl rfl rfl ?_; refine WA_one (k := 0) rfl (by kernel_rfl) ?_
            refine ws (v_bs (List.toArray []) 3 0 rfl rfl (by intro w; kernel_rfl)) rfl rfl rfl ?_; rintro _ _ ⟨eb, rfl, rfl, _⟩; refine WO_nil (sq_n ?_); refine WA_one (k := 4) rfl (by kernel_rfl) ?_; rw [pmv_zero]
            refine wapp (bytes := 8) rfl underlying23 underlying23 sizeOf3 typeInfo3 rfl zeroValue3 rfl rfl rfl OwnV.empty rfl (((DatV.take' datV_row (by rw [hx.l1]; omega)).cons _).cons _) hlt1 (fun _ => rfl) (by rw [hlt1]; show (2 * (0 + x.nl) + 1000) * 8 ≤ _; omega) (by rw [hlt1]; show 0 + x.nl < _; omega) rfl rfl rfl ?_; intro p4 c4 Hs4 hO4; rw [List.nil_append] at hO4 ⊢; refine WO_nil (sq_n ?_)
            refine WA_one (k := 8) rfl (by kernel_rfl) ?_; rw [pmv_zero]; refine wapp (bytes := 8) rfl underlying23 underlying23 sizeOf3 typeInfo3 rfl zeroValue3 rfl rfl rfl hO4 rfl ((((DatV.take' datV_row (by rw [hx.l2]; omega)).cons _).cons _).app Hs4) hlt2 (fun _ => rfl) (by rw [hlt1, hlt2]; omega) (by rw [hlt1, hlt2]; omega) rfl rfl rfl ?_; intro p5 c5 Hs5 hO5; refine WO_nil (sq_n ?_)
            refine WA_one (k := 10) rfl (by kernel_rfl) ?_; refine wc (e_c rfl rfl rfl call49) rfl rfl rfl (runs_spec (hO5.dat.appl _) (by rw [List.length_append, hlt1, hlt2]; omega) h15r ((((hz.appl G).cons _).cons _).app Hs5) hV hvl (by omega)) (.cons (.app .here) .all) ?_; rintro _ _ ⟨p6, c6, Hr, rfl, hOr, rfl⟩; rw [e6] at hOr; rw [e6, e6b]; (try simp only [ap4]); refine WO_nil (sq_n ?_)
            refine WA_k (fuel := 0) [11] rfl (by kernel_rfl) ?_; refine yp rfl (v_as rfl rfl) rfl ?_; refine WK_nil ?_; refine WA_nil (by kernel_rfl) (sq_n (hK25 _ _ ?_)); refine W.keep [0,1,13,14,15,16,17] rfl ?_; refine W_seq fun K26 hK26 => ?_
            refine W.drop (H' := (cb, chO pl V.length capl x.a) :: (ob, .cells (List.toArray (x.LL.map iV)) 3 (0, 0)) :: (ob2, .cells (List.toArray (x.DD.map iV)) 3 (0, 0)) :: (Hr ++ (D ++ G))) (.cons (.app .here) (.cons (.app (.app .here)) (.cons (.app (.app .here)) (.pre .behind)))) ?_; have hdr : DatT p6 x.rows (Hr ++ (D ++ G)) := hOr.dat.appl _; refine W_region ?_
            refine ws (v_mk (bytes := 1) rfl underlying105 sizeOf4 typeInfo4 rfl zeroValue4 rfl rfl (by omega) (by omega) rfl rfl) rfl rfl rfl ?_; rintro _ _ ⟨ub, rfl, rfl, _⟩; refine xa rfl rfl ?_; refine WO_nil (sq_n (hK26 _ _ ?_)); refine W_seq fun K27 hK27 => ?_; refine W_seq fun K28 hK28 => ?_; refine W_region ?_; refine xm rfl rfl ?_; refine xp (v_len rfl underlying107 rfl) rfl ?_; refine xm rfl rfl ?_
            refine WO_nil (sq_n (hK28 _ _ ?_)); refine W_block ?_
            refine W_loop (fun m E H => ∃ i u, i ≤ x.rows.length ∧ m = x.rows.length - i ∧ (x.rows.drop i).foldl (fun u t => u.set t.1 1) u = used19 x.rows ∧ u.length = 19 ∧ Sub E [(0, .pointer (some ⟨w, 0, none⟩)), (1, .slice pT T.length capT), (13, .slice (some ⟨ob, 0, none⟩) 286 286), (14, .slice (some ⟨ob2, 0, none⟩) 30 30), (15, iV x.nl), (16, iV x.nd), (17, .slice p6 x.rows.length c6), (18, .slice (some ⟨ub, 0, none⟩) 19 19), (115, .slice p6 x.rows.length c6), (116, iV x.rows.length), (117, iV i)] ∧ H = (ub, .cells (List.toArray (u.map bf)) 4 (0, 0)) :: (cb, chO pl V.length capl x.a) :: (ob, .cells (List.toArray (x.LL.map iV)) 3 (0, 0)) :: (ob2, .cells (List.toArray (x.DD.map iV)) 3 (0, 0)) :: (Hr ++ (D ++ G))) (m := _) (⟨0, List.replicate 19 0, Nat.zero_le _, rfl, rfl, List.length_replicate, ⟨rfl, rfl, rfl, rfl, rfl, rfl, rfl, rfl, rfl, rfl, rfl, trivial⟩, by rw [List.map_replicate]; rfl⟩) ?_
            rintro m E H ⟨i, u, hi, rfl, hfo, hu1, hE, rfl⟩; refine W.env hE ?_; have hrl := hx.rl; refine W_seq fun K29 hK29 => ?_; refine W_region ?_; refine xp (n_lt rfl rfl rfl) rfl ?_; refine WO_nil (sq_n (hK29 _ _ ?_)); refine W_seq fun K30 hK30 => ?_; refine W_cond rfl (fun hc5 => ?_) (fun hc5 => ?_)
            · replace hc5 := of_decide_eq_true hc5; obtain ⟨q3, k3, ty3, fz3, r3, rfl, hat3, hcc3⟩ := hdr (by intro e; rw [e] at hc5; simp at hc5); obtain ⟨u1, u2, u3⟩ := hcc3 i hc5; have hti := hx.ro _ (List.getElem_mem hc5); rw [List.drop_eq_getElem_cons hc5, List.foldl_cons] at hfo; generalize x.rows[i] = tt at *; obtain ⟨ta, tb, tc⟩ := tt; obtain ⟨t1, t2, t3⟩ := hti; dsimp only at u1 u2 u3 t1 t2 t3
              refine W_skip (sq_n (hK30 _ _ ?_)); refine W_seq fun K31 hK31 => ?_; refine W_block ?_; refine W_seq fun K32 hK32 => ?_; refine W_region ?_; refine xp (v_ixs rfl underlying107 sizeOf110 rfl rfl (by omega)) rfl ?_
              refine wv (v_lda (z := 3) (vs := [iV ta, iV tb, iV tc]) rfl rfl isAgg110 sizeOf110 (AtH.there (h := AtH.there (h := AtH.there (h := AtH.there (h := hat3))))) rfl (fun j hj => by
                match j, hj with
                | 0, _ => rw [Nat.add_zero]; simpa using u1
                | 1, _ => simpa using u2
                | 2, _ => simpa using u3)) rfl rfl rfl ?_
              refine wf (v_ala rfl zv110) rfl rfl rfl ?_; intro tb0 _; refine wsn (v_sta (c' := [iV ta, iV tb, iV tc]) rfl rfl rfl sizeOf110 rfl (fun v hv => List.all_eq_true.1 (show List.all _ one = true from rfl) v hv) rfl (Nat.le_of_ble_eq_true rfl)) rfl rfl ?_; rintro _ _ ⟨rfl, rfl⟩; refine WO_nil (sq_n (hK32 _ _ ?_)); refine W_region ?_; refine xm rfl rfl ?_
              refine xp (v_fa (q := 0) rfl underlying110 rfl rfl sizeOf3 rfl) rfl ?_; refine xv (ld rfl rfl isAgg3) rfl ?_; refine xp (v_ixs rfl underlying105 sizeOf4 rfl rfl (by omega)) rfl ?_; refine wst' rfl rfl rfl sizeOf4 rfl (List.map_set (f := bf) (a := 1)).symm (by rw [List.length_map]; omega) rfl rfl ?_; refine WO_nil (bl_n (sq_n (hK31 _ _ ?_))); refine W.drop (.skip .all) ?_; refine W_region ?_
              refine xp (n_add rfl rfl rfl kI (by omega)) rfl ?_; refine xm rfl rfl ?_; refine WO_nil (sq_n (?_)); exact ⟨x.rows.length - (i + 1), by omega, i + 1, u.set ta 1, by omega, rfl, hfo, by rw [List.length_set]; exact hu1, ⟨rfl, rfl, rfl, rfl, rfl, rfl, rfl, rfl, rfl, rfl, rfl, trivial⟩, rfl⟩
            · replace hc5 := of_decide_eq_false hc5; obtain rfl : i = x.rows.length := by omega
              rw [List.drop_length] at hfo; obtain rfl : u = used19 x.rows := hfo; refine W_exit (sq_x (sq_x (bl_x (sq_n (hK27 _ _ ?_))))); refine W.keep [0,1,13,14,15,16,17,18] rfl ?_; refine W_seq fun K33 hK33 => ?_; refine W_region ?_; refine xm rfl rfl ?_; refine xp (v_any (.agg (List.toArray [.slice none 0 0, iV 0])) rfl rfl (by intro w; kernel_rfl)) rfl ?_; refine wf (v_bxa rfl rfl) rfl rfl rfl ?_; intro nb _
              refine wc (e_c rfl rfl rfl call48) rfl rfl rfl (tree_m (V := []) (pl := none) (capl := 0) (at_ := 0) (cb := nb) hu1 datV_row (by decide) (by decide) (show DatV (zf []) none [] _ from DatV.nil) (fun i => by simp) (by decide) (by decide) (by decide)) .all ?_; rintro _ _ ⟨ob3, G3, rfl, rfl⟩; rw [e7]; (try simp only [ap4]); refine xa rfl rfl ?_; refine WO_nil (sq_n (hK33 _ _ ?_))
              refine W.keep [0,1,13,14,15,16,17,21] rfl ?_; refine W_seq fun K34 hK34 => ?_
              refine W.drop (H' := (cb, chO pl V.length capl x.a) :: (ob, .cells (List.toArray (x.LL.map iV)) 3 (0, 0)) :: (ob2, .cells (List.toArray (x.DD.map iV)) 3 (0, 0)) :: (ob3, .cells (List.toArray (x.lens.map iV)) 3 (0, 0)) :: (Hr ++ (D ++ G))) (.cons (.app (.there (.there (.there .here)))) (.cons (.app (.there (.there (.there .here)))) (.cons (.app (.there (.there (.there .here)))) (.cons (.app .here) (.app (.skip (.skip .all))))))) ?_
              refine W_region ?_; refine xa rfl rfl ?_; refine WO_nil (sq_n (hK34 _ _ ?_))
              refine W_seq_mid (fun E H => ∃ X, Sub E [(0, .pointer (some ⟨w, 0, none⟩)), (1, .slice pT T.length capT), (13, .slice (some ⟨ob, 0, none⟩) 286 286), (14, .slice (some ⟨ob2, 0, none⟩) 30 30), (15, iV x.nl), (16, iV x.nd), (17, .slice p6 x.rows.length c6), (21, .slice (some ⟨ob3, 0, none⟩) 19 19), (22, iV x.nc)] ∧ H = X ++ ((cb, chO pl V.length capl x.a) :: (ob, .cells (List.toArray (x.LL.map iV)) 3 (0, 0)) :: (ob2, .cells (List.toArray (x.DD.map iV)) 3 (0, 0)) :: (ob3, .cells (List.toArray (x.lens.map iV)) 3 (0, 0)) :: (Hr ++ (D ++ G)))) ?_ ?_
              · skip
                refine W_block ?_
                refine W_loop (fun m E H => ∃ k, k ≤ 15 ∧ k = m ∧ trimO x.lens k = x.nc ∧ Sub E [(0, .pointer (some ⟨w, 0, none⟩)), (1, .slice pT T.length capT), (13, .slice (some ⟨ob, 0, none⟩) 286 286), (14, .slice (some ⟨ob2, 0, none⟩) 30 30), (15, iV x.nl), (16, iV x.nd), (17, .slice p6 x.rows.length c6), (21, .slice (some ⟨ob3, 0, none⟩) 19 19), (22, iV (4 + k))] ∧ H = (cb, chO pl V.length capl x.a) :: (ob, .cells (List.toArray (x.LL.map iV)) 3 (0, 0)) :: (ob2, .cells (List.toArray (x.DD.map iV)) 3 (0, 0)) :: (ob3, .cells (List.toArray (x.lens.map iV)) 3 (0, 0)) :: (Hr ++ (D ++ G))) (m := _) (⟨15, Nat.le_refl _, rfl, e8.symm, ⟨rfl, rfl, rfl, rfl, rfl, rfl, rfl, rfl, rfl, trivial⟩, rfl⟩) ?_
                rintro m E H ⟨k, hk, rfl, htr, hE, rfl⟩; refine W.env hE ?_; have hl3 := hx.l3; refine W_seq fun K36 hK36 => ?_; refine W_seq fun K37 hK37 => ?_; by_cases hk1 : 0 < k
                · skip
                  by_cases hk2 : x.lens.getD (orderL.getD (4 + k - 1) 0) 0 = 0
                  · skip
                    refine W_region ?_; refine xm rfl rfl ?_; refine xp (v_gt rfl rfl rfl (dT (by omega))) rfl ?_; refine xm rfl rfl ?_; refine xm rfl rfl ?_; refine wc (e_c rfl rfl rfl call43) rfl rfl rfl (order_spec) .all ?_; rintro _ _ ⟨bo, rfl, rfl⟩; have ho19 := order_lt0 (4 + k - 1) (by omega); (try simp only [ap4]); refine xm rfl rfl ?_; refine xp (n_sub rfl rfl rfl kI (by omega) (by omega)) rfl ?_
                    refine xp (v_ixs rfl underlying23 sizeOf3 rfl rfl (by omega)) rfl ?_; refine xv (v_ld rfl rfl isAgg3 (ints_at (X := orderL) (show 4 + k - 1 < 19 by omega))) rfl ?_; refine xp (v_ixs rfl underlying23 sizeOf3 rfl rfl (by omega)) rfl ?_; refine xv (v_ld rfl rfl isAgg3 (ints_at (by omega))) rfl ?_; refine xp (v_eq rfl rfl rfl (dT (by omega))) rfl ?_; refine xp (v_pt rfl rfl rfl) rfl ?_
                    refine WO_nil (sq_n (hK37 _ _ ?_)); refine W_cond_t rfl ?_; refine W_skip (sq_n (hK36 _ _ ?_)); refine W_block ?_; refine W.drop (.skip .all) ?_; refine W_region ?_; refine xm rfl rfl ?_; refine xp (n_sub rfl rfl rfl kI (by omega) (by omega)) rfl ?_; refine xa rfl rfl ?_; refine WO_nil (bl_n (sq_n (?_))); obtain ⟨k, rfl⟩ : ∃ j, k = j + 1 := ⟨k - 1, by omega⟩
                    rw [trimO, if_pos (by rw [← hk2]; congr 2)] at htr; exact ⟨k, by omega, k, by omega, rfl, htr, ⟨rfl, rfl, rfl, rfl, rfl, rfl, rfl, rfl, rfl, trivial⟩, rfl⟩
                  · have hst : x.nc = 4 + k := by
                      rw [← htr]
                      cases k with
                      | zero => rfl
                      | succ k => rw [trimO, if_neg (fun e => hk2 (by rw [← e]; congr 2))]; omega
                    refine W_region ?_; refine xm rfl rfl ?_; refine xp (v_gt rfl rfl rfl (dT (by omega))) rfl ?_; refine xm rfl rfl ?_; refine xm rfl rfl ?_; refine wc (e_c rfl rfl rfl call43) rfl rfl rfl (order_spec) .all ?_; rintro _ _ ⟨bo, rfl, rfl⟩; have ho19 := order_lt0 (4 + k - 1) (by omega); (try simp only [ap4]); refine xm rfl rfl ?_; refine xp (n_sub rfl rfl rfl kI (by omega) (by omega)) rfl ?_
                    refine xp (v_ixs rfl underlying23 sizeOf3 rfl rfl (by omega)) rfl ?_; refine xv (v_ld rfl rfl isAgg3 (ints_at (X := orderL) (show 4 + k - 1 < 19 by omega))) rfl ?_; refine xp (v_ixs rfl underlying23 sizeOf3 rfl rfl (by omega)) rfl ?_; refine xv (v_ld rfl rfl isAgg3 (ints_at (by omega))) rfl ?_; refine xp (v_eq rfl rfl rfl (dF (by omega))) rfl ?_; refine xp (v_pt rfl rfl rfl) rfl ?_
                    refine WO_nil (sq_n (hK37 _ _ ?_)); refine W_cond_f rfl ?_; refine W_exit (sq_x (sq_x (bl_x (sq_n (?_))))); rw [hst]; first
                    | exact ⟨[], ⟨rfl, rfl, rfl, rfl, rfl, rfl, rfl, rfl, rfl, trivial⟩, rfl⟩
                    | exact ⟨[_], ⟨rfl, rfl, rfl, rfl, rfl, rfl, rfl, rfl, rfl, trivial⟩, rfl⟩
                · have hst : x.nc = 4 + k := by
                    obtain rfl : k = 0 := by omega
                    exact htr.symm
                  refine W_region ?_; refine xm rfl rfl ?_; refine xp (v_gt rfl rfl rfl (dF (by omega))) rfl ?_; refine xm rfl rfl ?_; refine xno rfl ?_; refine xno rfl ?_; refine xno rfl ?_; refine xno rfl ?_; refine xno rfl ?_; refine xno rfl ?_; refine xno rfl ?_; refine xno rfl ?_; refine xno rfl ?_; refine xp (v_pf rfl rfl rfl) rfl ?_; refine WO_nil (sq_n (hK37 _ _ ?_)); refine W_cond_f rfl ?_
                  refine W_exit (sq_x (sq_x (bl_x (sq_n (?_))))); rw [hst]; first
                  | exact ⟨[], ⟨rfl, rfl, rfl, rfl, rfl, rfl, rfl, rfl, rfl, trivial⟩, rfl⟩
                  | exact ⟨[_], ⟨rfl, rfl, rfl, rfl, rfl, rfl, rfl, rfl, rfl, trivial⟩, rfl⟩
              · rintro E H ⟨X, hE, rfl⟩; refine W.env hE ?_; refine W.drop .behind ?_; obtain ⟨n5, n6⟩ := hx.nc; have hl3 := hx.l3; obtain ⟨n1, n2⟩ := hx.nl; obtain ⟨n3, n4⟩ := hx.nd; refine W_seq fun K38 hK38 => ?_; refine W_region ?_; refine xm rfl rfl ?_; refine xm rfl rfl ?_; refine xp (n_sub rfl rfl rfl kI (by omega) (by omega)) rfl ?_
                refine wc (e_c rfl rfl rfl call32) rfl rfl rfl (wbits_spec hw hG (by omega) (by decide) (by omega)) (.skip (.skip (.skip (.skip (.app .behind))))) ?_; intro _ Ga hGa; have w1 := wbits_ok hw (x.nl - 257) 5; have a1 := wbits_at s (x.nl - 257) 5; have b1 := w1.le; have b2 := w1.lt; (try simp only [ap4]); refine WO_nil (sq_n (hK38 _ _ ?_)); refine W.keep [0,1,13,14,16,17,21,22] rfl ?_
                refine W_seq fun K39 hK39 => ?_; refine W_region ?_; refine xm rfl rfl ?_; refine xm rfl rfl ?_; refine xp (n_sub rfl rfl rfl kI (by omega) (by omega)) rfl ?_; refine wc (e_c rfl rfl rfl call32) rfl rfl rfl (wbits_spec w1 hGa (by omega) (by decide) (by omega)) (.skip (.skip (.skip (.skip (.app .behind))))) ?_; intro _ Gb hGb; have w2 := wbits_ok w1 (x.nd - 1) 5
                have a2 := wbits_at (wbits s (x.nl - 257) 5) (x.nd - 1) 5; have b3 := w2.le; have b4 := w2.lt; (try simp only [ap4]); refine WO_nil (sq_n (hK39 _ _ ?_)); refine W.keep [0,1,13,14,17,21,22] rfl ?_; refine W_seq fun K40 hK40 => ?_; refine W_region ?_; refine xm rfl rfl ?_; refine xm rfl rfl ?_; refine xp (n_sub rfl rfl rfl kI (by omega) (by omega)) rfl ?_
                refine wc (e_c rfl rfl rfl call32) rfl rfl rfl (wbits_spec w2 hGb (by omega) (by decide) (by omega)) (.skip (.skip (.skip (.skip (.app .behind))))) ?_; intro _ Gc hGc; have w3 := wbits_ok w2 (x.nc - 4) 4; have a3_ := wbits_at (wbits (wbits s (x.nl - 257) 5) (x.nd - 1) 5) (x.nc - 4) 4; have b5 := w3.le; have b6 := w3.lt
                obtain ⟨s3, hs3⟩ : ∃ s3, wbits (wbits (wbits s (x.nl - 257) 5) (x.nd - 1) 5) (x.nc - 4) 4 = s3 := ⟨_, rfl⟩; rw [hs3] at w3 a3_ b5 b6 hGc hfin; (try simp only [ap4]); refine WO_nil (sq_n (hK40 _ _ ?_)); refine W.keep [0,1,13,14,17,21,22] rfl ?_; refine W_seq fun K41 hK41 => ?_; refine W_seq fun K42 hK42 => ?_; refine W_region ?_; refine wc (e_c rfl rfl rfl call43) rfl rfl rfl (order_spec) .all ?_
                rintro _ _ ⟨bo, rfl, rfl⟩; (try simp only [ap4]); refine xm rfl rfl ?_; refine xp (v_slp rfl underlying23 sizeOf3 rfl .none (.some rfl) .none (by omega) (by omega) (by omega) (by decide)) rfl ?_; rw [pmv_zero]; refine xp (v_len rfl underlying23 rfl) rfl ?_; refine xm rfl rfl ?_; refine WO_nil (sq_n (hK42 _ _ ?_)); refine W.keep [0,1,13,14,17,21,159,160,161] rfl ?_; refine W_block ?_
                refine W_loop (fun m E H => ∃ i t G, i ≤ x.nc ∧ m = x.nc - i ∧ WOk t ∧ t.2 = s3.2 + 3 * i ∧ wlens x.lens ((orderL.take x.nc).drop i) t = wlens x.lens (orderL.take x.nc) s3 ∧ WH w t G ∧ Sub E [(0, .pointer (some ⟨w, 0, none⟩)), (1, .slice pT T.length capT), (13, .slice (some ⟨ob, 0, none⟩) 286 286), (14, .slice (some ⟨ob2, 0, none⟩) 30 30), (17, .slice p6 x.rows.length c6), (21, .slice (some ⟨ob3, 0, none⟩) 19 19), (159, .slice (some ⟨bo, 0, none⟩) x.nc 19), (160, iV x.nc), (161, iV i)] ∧ H = (bo, .cells (List.toArray (orderL.map iV)) 3 (0, 0)) :: (cb, chO pl V.length capl x.a) :: (ob, .cells (List.toArray (x.LL.map iV)) 3 (0, 0)) :: (ob2, .cells (List.toArray (x.DD.map iV)) 3 (0, 0)) :: (ob3, .cells (List.toArray (x.lens.map iV)) 3 (0, 0)) :: (Hr ++ (D ++ G))) (m := _) (⟨0, s3, Gc, Nat.zero_le _, rfl, w3, rfl, rfl, hGc, ⟨rfl, rfl, rfl, rfl, rfl, rfl, rfl, rfl, rfl, trivial⟩, rfl⟩) ?_
                rintro m E H ⟨i, t, G, hi, rfl, hwt, hta, hfo, hG, hE, rfl⟩; refine W.env hE ?_; have g3 := hwt.le; have g4 := hwt.lt; refine W_seq fun K43 hK43 => ?_; refine W_region ?_; refine xp (n_lt rfl rfl rfl) rfl ?_; refine WO_nil (sq_n (hK43 _ _ ?_)); refine W_seq fun K44 hK44 => ?_; refine W_cond rfl (fun hc7 => ?_) (fun hc7 => ?_)
                · replace hc7 := of_decide_eq_true hc7; have hoi := order_lt0 i (by omega); have hil : i < (orderL.take x.nc).length := by rw [List.length_take]; show i < min x.nc 19; omega
                  have hog : (orderL.take x.nc)[i] = orderL.getD i 0 := by rw [List.getElem_take, getD_in (show i < orderL.length by show i < 19; omega)]
                  rw [List.drop_eq_getElem_cons hil, wlens, hog] at hfo
                  have hb13 : x.lens.getD (orderL.getD i 0) 0 ≤ 13 := by
                    rw [List.getD_eq_getElem?_getD, List.getElem?_eq_getElem (by omega)]; exact hx.b3 _ (List.getElem_mem _)
                  refine W_skip (sq_n (hK44 _ _ ?_)); refine W_seq fun K45 hK45 => ?_; refine W_block ?_; refine W_seq fun K46 hK46 => ?_; refine W_region ?_; refine xp (v_ixs rfl underlying23 sizeOf3 rfl rfl (by omega)) rfl ?_; refine xv (v_ld rfl rfl isAgg3 (ints_at (X := orderL) (show i < 19 by omega))) rfl ?_; refine xa rfl rfl ?_; refine WO_nil (sq_n (hK46 _ _ ?_)); refine W_region ?_; refine xm rfl rfl ?_
                  refine xm rfl rfl ?_; refine xm rfl rfl ?_; refine xp (v_ixs rfl underlying23 sizeOf3 rfl rfl (by omega)) rfl ?_; refine xv (v_ld rfl rfl isAgg3 (ints_at (by omega))) rfl ?_; refine wc (e_c rfl rfl rfl call32) rfl rfl rfl (wbits_spec hwt hG (by omega) (by decide) (by omega)) (.skip (.skip (.skip (.skip (.skip (.app .behind)))))) ?_; intro _ G2 hG2; (try simp only [ap4])
                  refine WO_nil (bl_n (sq_n (hK45 _ _ ?_))); refine W_region ?_; refine xp (n_add rfl rfl rfl kI (by omega)) rfl ?_; refine xm rfl rfl ?_; refine WO_nil (sq_n (?_)); exact ⟨x.nc - (i + 1), by omega, i + 1, _, _, by omega, rfl, wbits_ok hwt _ _, by rw [wbits_at]; omega, hfo, hG2, ⟨rfl, rfl, rfl, rfl, rfl, rfl, rfl, rfl, rfl, trivial⟩, rfl⟩
                · replace hc7 := of_decide_eq_false hc7; obtain rfl : i = x.nc := by omega
                  rw [List.drop_eq_nil_of_le (by rw [List.length_take]; omega), wlens] at hfo; subst hfo; refine W_exit (sq_x (sq_x (bl_x (sq_n (hK41 _ _ ?_))))); refine W.keep [0,1,13,14,17,21] rfl ?_; refine W_seq fun K47 hK47 => ?_; refine W.drop (.skip .all) ?_; have hnc19 : x.nc ≤ 19 := n6; refine W_region ?_; refine xm rfl rfl ?_
                  refine wc (e_c rfl rfl rfl call44) rfl rfl rfl (codes_m hl3 (((datV_row.cons _).cons _).cons _) (by decide)) .all ?_; rintro _ _ ⟨bn, rfl, rfl⟩; (try simp only [ap4]); refine xa rfl rfl ?_; refine WO_nil (sq_n (hK47 _ _ ?_)); refine W_seq fun K48 hK48 => ?_; refine W_seq fun K49 hK49 => ?_; refine W_region ?_; refine xm rfl rfl ?_; refine xp (v_len rfl underlying107 rfl) rfl ?_; refine xm rfl rfl ?_
                  refine WO_nil (sq_n (hK49 _ _ ?_)); refine W.keep [0,1,13,14,21,25,174,175,176] rfl ?_; refine W_block ?_
                  refine W_loop (fun m E H => ∃ i t2 G, i ≤ x.rows.length ∧ m = x.rows.length - i ∧ WOk t2 ∧ t2.2 ≤ s3.2 + 57 + 20 * i ∧ (x.rows.drop i).foldl (wrun (codesL x.lens) x.lens) t2 = x.rows.foldl (wrun (codesL x.lens) x.lens) (wlens x.lens (orderL.take x.nc) s3) ∧ WH w t2 G ∧ Sub E [(0, .pointer (some ⟨w, 0, none⟩)), (1, .slice pT T.length capT), (13, .slice (some ⟨ob, 0, none⟩) 286 286), (14, .slice (some ⟨ob2, 0, none⟩) 30 30), (21, .slice (some ⟨ob3, 0, none⟩) 19 19), (25, .slice (some ⟨bn, 0, none⟩) 19 19), (174, .slice p6 x.rows.length c6), (175, iV x.rows.length), (176, iV i)] ∧ H = (bn, .cells (List.toArray ((codesL x.lens).map iV)) 3 (0, 0)) :: (cb, chO pl V.length capl x.a) :: (ob, .cells (List.toArray (x.LL.map iV)) 3 (0, 0)) :: (ob2, .cells (List.toArray (x.DD.map iV)) 3 (0, 0)) :: (ob3, .cells (List.toArray (x.lens.map iV)) 3 (0, 0)) :: (Hr ++ (D ++ G))) (m := _) (⟨0, _, G, Nat.zero_le _, rfl, hwt, by omega, rfl, hG, ⟨rfl, rfl, rfl, rfl, rfl, rfl, rfl, rfl, rfl, trivial⟩, rfl⟩) ?_
                  rintro m E H ⟨i, t2, G, hi, rfl, hwt2, hta2, hfo, hG, hE, rfl⟩; refine W.env hE ?_; have g5 := hwt2.le; have g6 := hwt2.lt; have hl3 := hx.l3; have hrl := hx.rl; refine W_seq fun K50 hK50 => ?_; refine W_region ?_; refine xp (n_lt rfl rfl rfl) rfl ?_; refine WO_nil (sq_n (hK50 _ _ ?_)); refine W_seq fun K51 hK51 => ?_; refine W_cond rfl (fun hc8 => ?_) (fun hc8 => ?_)
                  · replace hc8 := of_decide_eq_true hc8; obtain ⟨q3, k3, ty3, fz3, r3, rfl, hat3, hcc3⟩ := (show DatT p6 x.rows (Hr ++ (D ++ G)) from hOr.dat.appl _) (by intro e; rw [e] at hc8; simp at hc8); obtain ⟨u1, u2, u3⟩ := hcc3 i hc8; have hti := hx.ro _ (List.getElem_mem hc8); rw [List.drop_eq_getElem_cons hc8, List.foldl_cons] at hfo; generalize x.rows[i] = tt at *; obtain ⟨ta, tb, tc⟩ := tt
                    obtain ⟨t1, t2_, t3⟩ := hti; dsimp only at u1 u2 u3 t1 t2_ t3
                    have hb13 : x.lens.getD ta 0 ≤ 13 := by
                      rw [List.getD_eq_getElem?_getD, List.getElem?_eq_getElem (by omega)]; exact hx.b3 _ (List.getElem_mem _)
                    have hcl := codesL_length x.lens; refine W_skip (sq_n (hK51 _ _ ?_)); refine W_seq fun K52 hK52 => ?_; refine W_block ?_; refine W_seq fun K53 hK53 => ?_; refine W_region ?_; refine xp (v_ixs rfl underlying107 sizeOf110 rfl rfl (by omega)) rfl ?_
                    refine wv (v_lda (z := 3) (vs := [iV ta, iV tb, iV tc]) rfl rfl isAgg110 sizeOf110 (AtH.there (h := AtH.there (h := AtH.there (h := AtH.there (h := AtH.there (h := hat3)))))) rfl (fun j hj => by
                      match j, hj with
                      | 0, _ => rw [Nat.add_zero]; simpa using u1
                      | 1, _ => simpa using u2
                      | 2, _ => simpa using u3)) rfl rfl rfl ?_
                    refine wf (v_ala rfl zv110) rfl rfl rfl ?_; intro tb0 _; refine wsn (v_sta (c' := [iV ta, iV tb, iV tc]) rfl rfl rfl sizeOf110 rfl (fun v hv => List.all_eq_true.1 (show List.all _ one = true from rfl) v hv) rfl (Nat.le_of_ble_eq_true rfl)) rfl rfl ?_; rintro _ _ ⟨rfl, rfl⟩; refine WO_nil (sq_n (hK53 _ _ ?_)); refine W_seq fun K54 hK54 => ?_; refine W_draw mixed ?_
                    refine WA_k (fuel := 1) [0,1,2,3,4,5,6,7,8,9,10] rfl (by kernel_rfl) ?_; refine ym rfl rfl rfl ?_; refine ym rfl rfl rfl ?_; refine yp rfl (v_fa (q := 0) rfl underlying110 rfl rfl sizeOf3 rfl) rfl ?_; refine yv rfl (ld rfl rfl isAgg3) rfl ?_; refine yp rfl (v_ixs rfl underlying23 sizeOf3 rfl rfl (by omega)) rfl ?_; refine yv rfl (v_ld rfl rfl isAgg3 (ints_at (by omega))) rfl ?_
                    refine ym rfl rfl rfl ?_; refine yp rfl (v_fa (q := 0) rfl underlying110 rfl rfl sizeOf3 rfl) rfl ?_; refine yv rfl (ld rfl rfl isAgg3) rfl ?_; refine yp rfl (v_ixs rfl underlying23 sizeOf3 rfl rfl (by omega)) rfl ?_; refine yv rfl (v_ld rfl rfl isAgg3 (ints_at (by omega))) rfl ?_; refine WK_nil ?_; refine WA_one (k := 11) rfl (by kernel_rfl) ?_
                    refine wc (e_c rfl rfl rfl call45) rfl rfl rfl (wcode_spec hwt2 hG (codesL_lt (by omega) _) (by omega) (by omega)) (.skip (.skip (.skip (.skip (.skip (.skip (.app .behind))))))) ?_; intro _ G2 hG2; have w5 := wcode_ok (n := (codesL x.lens).getD ta 0) (x.lens.getD ta 0) hwt2; have a5 := wcode_at (n := (codesL x.lens).getD ta 0) (x.lens.getD ta 0) t2; have g7 := w5.le; have g8 := w5.lt
                    (try simp only [ap4]); refine WO_nil (sq_n ?_); refine WA_nil (by kernel_rfl) (sq_n (hK54 _ _ ?_)); refine W_region ?_; refine xm rfl rfl ?_; refine xp (v_fa (q := 1) rfl underlying110 rfl rfl sizeOf3 rfl) rfl ?_; refine xv (ld rfl rfl isAgg3) rfl ?_; refine xp (v_fa (q := 2) rfl underlying110 rfl rfl sizeOf3 rfl) rfl ?_; refine xv (ld rfl rfl isAgg3) rfl ?_
                    refine wc (e_c rfl rfl rfl call32) rfl rfl rfl (wbits_spec w5 hG2 (by omega) (by omega) (by omega)) (.skip (.skip (.skip (.skip (.skip (.skip (.app .behind))))))) ?_; intro _ G3 hG3; (try simp only [ap4]); refine WO_nil (bl_n (sq_n (hK52 _ _ ?_))); refine W.drop (.skip .all) ?_; refine W_region ?_; refine xp (n_add rfl rfl rfl kI (by omega)) rfl ?_; refine xm rfl rfl ?_; refine WO_nil (sq_n (?_))
                    have hwr := (wruns_ok (C := codesL x.lens) hx.b3 [(ta, tb, tc)] hwt2 (fun u hu => by rw [List.mem_singleton.1 hu]; exact ⟨t1, t2_, t3⟩))
                    exact ⟨x.rows.length - (i + 1), by omega, i + 1, wrun (codesL x.lens) x.lens t2 (ta, tb, tc), _, by omega, rfl, hwr.1, by have := hwr.2.2; simp only [List.foldl_cons, List.foldl_nil, List.length_singleton] at this; omega, hfo, hG3, ⟨rfl, rfl, rfl, rfl, rfl, rfl, rfl, rfl, rfl, trivial⟩, rfl⟩
                  · replace hc8 := of_decide_eq_false hc8; obtain rfl : i = x.rows.length := by omega
                    rw [List.drop_length] at hfo; obtain rfl : t2 = x.rows.foldl (wrun (codesL x.lens) x.lens) (wlens x.lens (orderL.take x.nc) s3) := hfo; refine W_exit (sq_x (sq_x (bl_x (sq_n (hK48 _ _ ?_))))); refine W.keep [0,1,13,14] rfl ?_; refine W_region ?_; refine xm rfl rfl ?_; refine xm rfl rfl ?_; refine xm rfl rfl ?_; refine xm rfl rfl ?_
                    refine wc (e_c rfl rfl rfl call35) rfl rfl rfl (body_m (Dd := (bn, .cells (List.toArray ((codesL x.lens).map iV)) 3 (0, 0)) :: (cb, chO pl V.length capl x.a) :: (ob, .cells (List.toArray (x.LL.map iV)) 3 (0, 0)) :: (ob2, .cells (List.toArray (x.DD.map iV)) 3 (0, 0)) :: (ob3, .cells (List.toArray (x.lens.map iV)) 3 (0, 0)) :: (Hr ++ D)) (G := G) hx.l1 hx.l2 (((((hT.app Hr).cons _).cons _).cons _).cons _ |>.cons _) hTo hTl ((datV_row.cons _).cons _) (by decide) (fun y hy => by have := hx.b1 y hy; omega) (((datV_row.cons _).cons _).cons _) (by decide) (fun y hy => by have := hx.b2 y hy; omega) hwt2 hG (by omega)) (.of (by rw [List.append_nil]; simp only [List.cons_append, List.append_assoc]; exact List.Perm.refl _)) ?_
                    rintro _ _ ⟨X, G9, hG9, rfl⟩; (try simp only [ap4]); refine WO_nil (end_of (v := _) rfl ?_)
                    have hgw : WH w (wdyn T V a s).1 G9 := by
                      unfold wdyn; rw [hxd]; show WH w (wdynT x T s) G9
                      rw [hfin]; exact hG9
                    rw [hxa]; exact (show ∃ X, HSub _ ((cb, chO pl V.length capl x.a) :: (D ++ G9)) X from ⟨_, hsub_end⟩).elim fun X h => ⟨X, G9, hgw, h⟩
end
end Go.Proofs.YtpbahgddoamhgaaGreatDoor
namespace Go.Proofs.YtpbahgddoamhgaaGreatDoor
open Go Sx Pu
set_option maxRecDepth 10000

namespace Pu
def dn (A : List Nat) (V : List Int) (f a : Nat) : Nat × Nat := if 0 < nxt V a 3 then (min (min (A.length - f) 65535) (nxt V (a + 1) 200), a + 2) else (min (A.length - f) 65535, a + 1)
def dlst (A : List Nat) (V : List Int) (f n a : Nat) : Nat × Nat := if f + n = A.length then ((if 0 < nxt V a 4 then 1 else 0), a + 1) else (0, a)
def dtok (A : List Nat) (V : List Int) (f n a : Nat) : List T3 × Nat := toks (A.take (f + n)) V (f + n) f a
def draw (M : List Nat) (n : Nat) (s : WS) : WS :=
  ((wbits (wbits (s.1, 8 * s.1.length) n 16) (n ^^^ 65535) 16).1 ++ M, 8 * ((wbits (wbits (s.1, 8 * s.1.length) n 16) (n ^^^ 65535) 16).1 ++ M).length)
def dblk (A : List Nat) (V : List Int) (f n kind : Nat) (T : List T3) (a : Nat) (s : WS) : WS × Nat :=
  if kind = 0 then (draw ((A.take (f + n)).drop f) n s, a) else if kind = 1 then (wbody fixL fixD T s, a) else wdyn T V a s
structure DR where
  last : Nat
  f : Nat
  a : Nat
  s : WS
def dblock (A : List Nat) (V : List Int) (f a : Nat) (s : WS) : DR :=
  let p := dn A V f a
  let q := dlst A V f p.1 p.2
  let t := dtok A V f p.1 (q.2 + 1)
  let r := dblk A V f p.1 (nxt V q.2 3) t.1 t.2 (wbits (wb1 s q.1) (nxt V q.2 3) 2)
  ⟨q.1, f + p.1, r.2, r.1⟩
def dloop (A : List Nat) : Nat → List Int → Nat → Nat → WS → List Nat
  | 0, _, _, _, s => s.1
  | K + 1, V, f, a, s => if (dblock A V f a s).last = 1 then (dblock A V f a s).s.1 else
    if 20000 < (dblock A V f a s).a then dloop A K [] (dblock A V f a s).f 0 (dblock A V f a s).s else dloop A K V (dblock A V f a s).f (dblock A V f a s).a (dblock A V f a s).s
def dphi (V : List Int) (a : Nat) : Nat := if V = [] ∧ a = 0 then 0 else 20002 - a
def dmeas (A : List Nat) (V : List Int) (f a : Nat) : Nat := (A.length - f) / 65535 * 20003 + dphi V a

theorem dn_ok (A : List Nat) (V : List Int) (f a : Nat) : (dn A V f a).1 ≤ A.length - f ∧ (dn A V f a).1 ≤ 65535 ∧ a + 1 ≤ (dn A V f a).2 ∧ (dn A V f a).2 ≤ a + 2 := by
  unfold dn; split <;> (dsimp only; omega)
theorem dlst_ok (A : List Nat) (V : List Int) (f n a : Nat) : (dlst A V f n a).1 ≤ 1 ∧ a ≤ (dlst A V f n a).2 ∧ (dlst A V f n a).2 ≤ a + 1 := by
  unfold dlst; split
  · dsimp only; split <;> omega
  · dsimp only; omega
theorem draw_ok {M : List Nat} {n : Nat} {s : WS} (h : WOk s) (hM : ∀ c ∈ M, c < 256) : WOk (draw M n s) ∧ s.2 ≤ (draw M n s).2 ∧ (draw M n s).2 ≤ s.2 + 8 * M.length + 40 := by
  have h1 := h.le; have h2 := h.lt; have h0 : WOk (s.1, 8 * s.1.length) := ⟨Nat.le_refl _, by show 8 * s.1.length < 8 * s.1.length + 8; omega, h.by8⟩; have h3 := wbits_ok (wbits_ok h0 n 16) (n ^^^ 65535) 16; have h4 := wbits_at (wbits (s.1, 8 * s.1.length) n 16) (n ^^^ 65535) 16; have h4b := wbits_at (s.1, 8 * s.1.length) n 16; rw [h4b] at h4; unfold draw
  generalize wbits (wbits (s.1, 8 * s.1.length) n 16) (n ^^^ 65535) 16 = t at *; have h5 := h3.le; have h6 := h3.lt; replace h4 : t.2 = 8 * s.1.length + 16 + 16 := h4
  refine ⟨⟨Nat.le_refl _, by show 8 * (t.1 ++ M).length < 8 * (t.1 ++ M).length + 8; omega, fun c hc => (List.mem_append.1 hc).elim (h3.by8 c) (hM c)⟩, ?_, ?_⟩
  · show s.2 ≤ 8 * _; rw [List.length_append]; omega
  · show 8 * _ ≤ _; rw [List.length_append]; omega
theorem dblk_ok {A : List Nat} {V : List Int} {f n kind : Nat} {T : List T3} {a : Nat} {s : WS} (hA : ∀ c ∈ A, c < 256) (h : WOk s) (hT : ∀ t ∈ T, TokOk t) (hTl : T.length ≤ n) (hn : f + n ≤ A.length) :
    WOk (dblk A V f n kind T a s).1 ∧ s.2 ≤ (dblk A V f n kind T a s).1.2 ∧ (dblk A V f n kind T a s).1.2 ≤ s.2 + 48 * n + 7000 ∧ a ≤ (dblk A V f n kind T a s).2 ∧ (dblk A V f n kind T a s).2 ≤ a + 1000 := by
  unfold dblk; split
  · obtain ⟨h1, h2, h3⟩ := draw_ok (M := (A.take (f + n)).drop f) (n := n) h fun c hc => hA c (List.mem_of_mem_take (List.mem_of_mem_drop hc)); rw [List.length_drop, List.length_take] at h3; exact ⟨h1, h2, by dsimp only; omega, Nat.le_refl _, by dsimp only; omega⟩
  · split
    · obtain ⟨h1, h2, h3⟩ := wbody_ok (L1 := fixL) (L2 := fixD) h hT (by decide) (by decide); exact ⟨h1, h2, by dsimp only; omega, Nat.le_refl _, by dsimp only; omega⟩
    · obtain ⟨h1, h2, h3, h4, h5⟩ := wdyn_ok (V := V) (a := a) h hT; exact ⟨h1, h2, by omega, h4, h5⟩
theorem dtok_ok {A : List Nat} (hA : ∀ c ∈ A, c < 256) (V : List Int) (f n a : Nat) (hn : f + n ≤ A.length) : (∀ t ∈ (dtok A V f n a).1, TokOk t) ∧ (dtok A V f n a).1.length ≤ n ∧ a ≤ (dtok A V f n a).2 ∧ (dtok A V f n a).2 ≤ a + 4 * n := by
  have hl : (A.take (f + n)).length = f + n := by rw [List.length_take]; omega
  have := toks_ok (A := A.take (f + n)) (fun c hc => hA c (List.mem_of_mem_take hc)) V (f + n) f a (by omega); rw [hl] at this; refine ⟨this.1, ?_, this.2.2.1, ?_⟩
  · have := this.2.1; unfold dtok; omega
  · have := this.2.2.2; unfold dtok; omega
theorem dblock_ok {A : List Nat} {V : List Int} {f a : Nat} {s : WS} (hA : ∀ c ∈ A, c < 256) (hf : f ≤ A.length) (h : WOk s) :
    f ≤ (dblock A V f a s).f ∧ (dblock A V f a s).f ≤ A.length ∧ WOk (dblock A V f a s).s ∧ s.2 ≤ (dblock A V f a s).s.2 ∧ (dblock A V f a s).s.2 ≤ s.2 + 48 * ((dblock A V f a s).f - f) + 7100 ∧ a < (dblock A V f a s).a := by
  obtain ⟨a1, a2, a3, a4⟩ := dn_ok A V f a; obtain ⟨b1, b2, b3⟩ := dlst_ok A V f (dn A V f a).1 (dn A V f a).2; obtain ⟨c1, c2, c3, c4⟩ := dtok_ok hA V f (dn A V f a).1 ((dlst A V f (dn A V f a).1 (dn A V f a).2).2 + 1) (by omega); have hw1 := wb1_ok h (dlst A V f (dn A V f a).1 (dn A V f a).2).1; have hw2 := wbits_ok hw1 (nxt V (dlst A V f (dn A V f a).1 (dn A V f a).2).2 3) 2
  have hw3 := wbits_at (wb1 s (dlst A V f (dn A V f a).1 (dn A V f a).2).1) (nxt V (dlst A V f (dn A V f a).1 (dn A V f a).2).2 3) 2; have hw4 : (wb1 s (dlst A V f (dn A V f a).1 (dn A V f a).2).1).2 = s.2 + 1 := rfl
  obtain ⟨d1, d2, d3, d4, d5⟩ := dblk_ok (V := V) (f := f) (n := (dn A V f a).1) (kind := nxt V (dlst A V f (dn A V f a).1 (dn A V f a).2).2 3) (a := (dtok A V f (dn A V f a).1 ((dlst A V f (dn A V f a).1 (dn A V f a).2).2 + 1)).2) hA hw2 c1 c2 (by omega); unfold dblock; dsimp only; exact ⟨by omega, by omega, d1, by omega, by omega, by omega⟩
theorem dblock_first {A : List Nat} {f : Nat} {s : WS} (hf : f ≤ A.length) : (dblock A [] f 0 s).last = 1 ∨ (dblock A [] f 0 s).f = f + 65535 := by
  have e1 : dn A [] f 0 = (min (A.length - f) 65535, 1) := by unfold dn; rw [if_neg (by decide)]
  unfold dblock; rw [e1]; dsimp only; rcases Nat.lt_or_ge 65535 (A.length - f) with h | h
  · right; omega
  · left
    unfold dlst; rw [if_pos (by omega)]; rfl
theorem dstep_meas {A : List Nat} {V : List Int} {f a : Nat} {s : WS} (hA : ∀ c ∈ A, c < 256) (hf : f ≤ A.length) (h : WOk s) (ha : a ≤ 20000) (hl : (dblock A V f a s).last ≠ 1) :
    (20000 < (dblock A V f a s).a → dmeas A [] (dblock A V f a s).f 0 < dmeas A V f a) ∧ (¬ 20000 < (dblock A V f a s).a → dmeas A V (dblock A V f a s).f (dblock A V f a s).a < dmeas A V f a) := by
  obtain ⟨h1, h2, h3, h4, h5, h6⟩ := dblock_ok (V := V) (a := a) hA hf h; have hm := fun (hh : V = [] ∧ a = 0) => dblock_first (A := A) (s := s) hf; have hd : (A.length - (dblock A V f a s).f) / 65535 ≤ (A.length - f) / 65535 := Nat.div_le_div_right (by omega)
  have hm2 : (V = [] ∧ a = 0) → (A.length - (dblock A V f a s).f) / 65535 + 1 ≤ (A.length - f) / 65535 := fun hh => by
    obtain ⟨rfl, rfl⟩ := hh; rcases hm ⟨rfl, rfl⟩ with h7 | h7
    · exact absurd h7 hl
    · omega
  have hmul := Nat.mul_le_mul_right 20003 hd; unfold dmeas dphi; refine ⟨fun hr => ?_, fun hr => ?_⟩
  · rw [if_pos ⟨rfl, rfl⟩]; split
    · rename_i hh; have := Nat.mul_le_mul_right 20003 (hm2 hh); rw [Nat.add_mul] at this; omega
    · omega
  · rw [if_neg (fun hh => by have := hh.2; omega)]; split
    · rename_i hh; have := Nat.mul_le_mul_right 20003 (hm2 hh); rw [Nat.add_mul] at this; omega
    · omega
theorem dloop_ok {A : List Nat} (hA : ∀ c ∈ A, c < 256) : ∀ (K : Nat) (V : List Int) (f a : Nat) (s : WS), f ≤ A.length → WOk s →
    (∀ c ∈ dloop A K V f a s, c < 256) ∧ 8 * (dloop A K V f a s).length < s.2 + 48 * (A.length - f) + 7100 * K + 8
  | 0, V, f, a, s, hf, h => ⟨h.by8, by have := h.lt; rw [dloop]; omega⟩
  | K + 1, V, f, a, s, hf, h => by
    obtain ⟨h1, h2, h3, h4, h5, h6⟩ := dblock_ok (V := V) (a := a) hA hf h; rw [dloop]; split
    · exact ⟨h3.by8, by have := h3.lt; omega⟩
    · split
      · obtain ⟨g1, g2⟩ := dloop_ok hA K [] (dblock A V f a s).f 0 (dblock A V f a s).s h2 h3; exact ⟨g1, by omega⟩
      · obtain ⟨g1, g2⟩ := dloop_ok hA K V (dblock A V f a s).f (dblock A V f a s).a (dblock A V f a s).s h2 h3; exact ⟨g1, by omega⟩
theorem dmeas_le {A : List Nat} (V : List Int) (h : A.length ≤ 2 ^ 21) : dmeas A V 0 0 < 2 ^ 20 := by
  have : (A.length - 0) / 65535 ≤ 32 := by omega
  have := Nat.mul_le_mul_right 20003 this; unfold dmeas dphi; split <;> omega
end Pu
theorem perm_ac (env : List Hl) {is js : List Nat} (h : is.Perm js) : ((is.map (fun i => env.getD i [])).flatten).Perm ((js.map (fun i => env.getD i [])).flatten) := (h.map _).flatten
end Go.Proofs.YtpbahgddoamhgaaGreatDoor
