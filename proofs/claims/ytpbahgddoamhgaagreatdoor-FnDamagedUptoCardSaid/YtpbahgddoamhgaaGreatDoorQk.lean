/- Part 11 of 11 of the proof: the executor, the walks and the plain laws, in build order. -/
import Derived.Test.YtpbahgddoamhgaaGreatDoorQj
import Derived.Laws.BytesArg
import Derived.Test.YtpbahgddoamhgaaGreatDoorRows
import Derived.ProofKit
import Derived.OpenShut
import Derived.LaidLaws
import Derived.Lib.LaidTab
import Derived.Deep.DeepHandedRow
namespace Go.Proofs.YtpbahgddoamhgaaGreatDoor
open Go.Proofs.Tryz
open Go Sx Pu
set_option maxRecDepth 10000

namespace Pu
def hd2 (a b : Nat) : Prop := a % 16 = 8 ∧ a / 16 ≤ 7 ∧ (a * 256 + b) % 31 = 0
instance (a b : Nat) : Decidable (hd2 a b) := inferInstanceAs (Decidable (_ ∧ _))
def be4 (n : Nat) : List Nat := [n / 16777216 % 256, n / 65536 % 256, n / 256 % 256, n % 256]
def asks (S : List Nat) : Nat × Bool := if 6 ≤ S.length ∧ S.getD 1 0 / 32 % 2 = 1 then (num4 S 2, true) else (0, false)
theorem num4_drop (S : List Nat) (i j : Nat) : num4 (S.drop i) j = num4 S (i + j) := by
  unfold num4; simp only [List.getD_eq_getElem?_getD, List.getElem?_drop, Nat.add_assoc]
theorem num4_lt {S : List Nat} (h : ∀ x ∈ S, x < 256) (i : Nat) : num4 S i < 4294967296 := by
  have a := getD_256 h i; have b := getD_256 h (i + 1); have c := getD_256 h (i + 2); have d := getD_256 h (i + 3); unfold num4; omega
theorem be4_lt (n : Nat) : ∀ x ∈ be4 n, x < 256 := by
  intro x hx; simp only [be4, List.mem_cons, List.not_mem_nil, or_false] at hx
  omega
end Pu
section
variable {D : Hl} {p : Option Addr} {cap a b n m : Nat} {S : List Nat}
theorem isHeader_spec (ha : a < 256) (hb : b < 256) : CallsL Tryz.prog 13 #[bV a, bV b] D fun v H' => v = .bool (decide (hd2 a b)) ∧ H' = D := by
  refine CallsL_of func13 rfl ntmps13 rfl ?_; try dsimp only [initE, Nat.zero_add]
  refine W_seq fun K1 hK1 => ?_; refine W_region ?_; refine xa rfl rfl ?_; refine WO_nil (sq_n (hK1 _ _ ?_)); refine W_seq fun K2 hK2 => ?_; by_cases h1 : a % 2 ^ 4 = 8
  · skip
    by_cases h2 : a / 2 ^ 4 ≤ 7
    · skip
      refine W_region ?_; refine xm rfl rfl ?_; refine xp (n_mask 4 rfl rfl rfl kB (by omega) (by decide) (by decide)) rfl ?_; refine xp (v_eq rfl rfl rfl (dT (by omega))) rfl ?_; refine xm rfl rfl ?_; refine xm rfl rfl ?_; refine xp (n_shr rfl rfl rfl (by decide)) rfl ?_; refine xp (v_le rfl rfl rfl (dT (by omega))) rfl ?_; refine xp (v_pt rfl rfl rfl) rfl ?_; refine xm rfl rfl ?_; refine xm rfl rfl ?_
      refine xp (n_cv rfl underlying5 underlying3 rfl kI (by omega)) rfl ?_; refine xp (n_mul rfl rfl rfl kI (by omega)) rfl ?_; refine xm rfl rfl ?_; refine xp (n_cv rfl underlying5 underlying3 rfl kI (by omega)) rfl ?_; refine xp (n_add rfl rfl rfl kI (by omega)) rfl ?_; refine xp (n_rem rfl rfl rfl (by omega)) rfl ?_; refine xp (n_eq rfl rfl rfl) rfl ?_; refine xp (v_pt rfl rfl rfl) rfl ?_; refine xa rfl rfl ?_
      refine WO_nil (sq_n (hK2 _ _ ?_)); refine W.keep [4] rfl ?_; refine W_ret (ret_of (v := _) rfl ?_); refine ⟨?_, rfl⟩; show Value.bool (decide ((a * 256 + b) % 31 = 0)) = _
      congr 1
      exact decide_eq_decide.2 ⟨fun h => ⟨h1, h2, h⟩, fun h => h.2.2⟩
    · skip
      refine W_region ?_; refine xm rfl rfl ?_; refine xp (n_mask 4 rfl rfl rfl kB (by omega) (by decide) (by decide)) rfl ?_; refine xp (v_eq rfl rfl rfl (dT (by omega))) rfl ?_; refine xm rfl rfl ?_; refine xm rfl rfl ?_; refine xp (n_shr rfl rfl rfl (by decide)) rfl ?_; refine xp (v_le rfl rfl rfl (dF (by omega))) rfl ?_; refine xp (v_pt rfl rfl rfl) rfl ?_; refine xm rfl rfl ?_; refine xno rfl ?_
      refine xno rfl ?_; refine xno rfl ?_; refine xno rfl ?_; refine xno rfl ?_; refine xno rfl ?_; refine xno rfl ?_; refine xno rfl ?_; refine xp (v_pf rfl rfl rfl) rfl ?_; refine xa rfl rfl ?_; refine WO_nil (sq_n (hK2 _ _ ?_)); refine W.keep [4] rfl ?_; refine W_ret (ret_of (v := _) rfl ?_); exact ⟨by rw [decide_eq_false fun h : hd2 a b => h2 h.2.1], rfl⟩
  · skip
    refine W_region ?_; refine xm rfl rfl ?_; refine xp (n_mask 4 rfl rfl rfl kB (by omega) (by decide) (by decide)) rfl ?_; refine xp (v_eq rfl rfl rfl (dF (by omega))) rfl ?_; refine xm rfl rfl ?_; refine xno rfl ?_; refine xno rfl ?_; refine xno rfl ?_; refine xp (v_pf rfl rfl rfl) rfl ?_; refine xm rfl rfl ?_; refine xno rfl ?_; refine xno rfl ?_; refine xno rfl ?_; refine xno rfl ?_; refine xno rfl ?_
    refine xno rfl ?_; refine xno rfl ?_; refine xno rfl ?_; refine xp (v_pf rfl rfl rfl) rfl ?_; refine xa rfl rfl ?_; refine WO_nil (sq_n (hK2 _ _ ?_)); refine W.keep [4] rfl ?_; refine W_ret (ret_of (v := _) rfl ?_); exact ⟨by rw [decide_eq_false fun h : hd2 a b => h1 h.1], rfl⟩
theorem four_spec (hn : n < 4294967296) : CallsL Tryz.prog 14 #[wV n] D fun v H' => ∃ b, v = .slice (some ⟨b, 0, none⟩) 4 4 ∧ H' = (b, .cells (List.toArray ((be4 n).map bV)) 5 (0, 0)) :: D := by
  refine CallsL_of func14 rfl ntmps14 rfl ?_; try dsimp only [initE, Nat.zero_add]
  refine W_seq fun K1 hK1 => ?_; refine W_region ?_; refine xa rfl rfl ?_; refine WO_nil (sq_n (hK1 _ _ ?_)); refine W_seq fun K2 hK2 => ?_; refine W_region ?_; refine xm rfl rfl ?_; refine xp (n_shr rfl rfl rfl (by decide)) rfl ?_; refine xp (n_cvm rfl underlying29 underlying5 rfl uB) rfl ?_; refine xm rfl rfl ?_; refine xp (n_shr rfl rfl rfl (by decide)) rfl ?_
  refine xp (n_cvm rfl underlying29 underlying5 rfl uB) rfl ?_; refine xm rfl rfl ?_; refine xp (n_shr rfl rfl rfl (by decide)) rfl ?_; refine xp (n_cvm rfl underlying29 underlying5 rfl uB) rfl ?_; refine xm rfl rfl ?_; refine xp (n_cvm rfl underlying29 underlying5 rfl uB) rfl ?_
  refine ws (v_bs (List.toArray [bV (n / 2 ^ 24 % 256), bV (n / 2 ^ 16 % 256), bV (n / 2 ^ 8 % 256), bV (n % 256)]) 5 4 rfl rfl (by intro w; kernel_rfl)) rfl rfl rfl ?_; rintro _ _ ⟨b, rfl, rfl, _⟩; refine xa rfl rfl ?_; refine WO_nil (sq_n (hK2 _ _ ?_)); refine W.keep [2] rfl ?_; refine W_ret (ret_of (v := _) rfl ?_); exact ⟨b, rfl, rfl⟩
theorem number_m (hm : S.length = m) (hd : Dat p S D) (hS : ∀ x ∈ S, x < 256) (h4 : 4 ≤ m) : CallsL Tryz.prog 16 #[.slice p m cap] D fun v H' => v = wV (num4 S 0) ∧ H' = D := by
  subst hm; obtain ⟨b2, off, c, ty, fz, r, rfl, hat, hcc⟩ := hd (by intro e; subst e; simp at h4); have hga : ∀ j, j < S.length → c[off + j]? = some (bV (S.getD j 0)) := fun j hj => by rw [hcc j hj, getD_in hj]
  have g0 := hga 0 (by omega); have g1 := hga 1 (by omega); have g2 := hga 2 (by omega); have g3 := hga 3 (by omega); have l0 := getD_256 hS 0; have l1 := getD_256 hS 1; have l2 := getD_256 hS 2; have l3 := getD_256 hS 3; have hnum : num4 S 0 = S.getD 0 0 * 16777216 + S.getD 1 0 * 65536 + S.getD 2 0 * 256 + S.getD 3 0 := rfl; generalize S.getD 0 0 = x0 at *; generalize S.getD 1 0 = x1 at *
  generalize S.getD 2 0 = x2 at *; generalize S.getD 3 0 = x3 at *; refine CallsL_of func16 rfl ntmps16 rfl ?_; try dsimp only [initE, Nat.zero_add]
  refine W_seq fun K1 hK1 => ?_; refine W_region ?_; refine xa rfl rfl ?_; refine WO_nil (sq_n (hK1 _ _ ?_)); refine W_seq fun K2 hK2 => ?_; refine W_draw mixed ?_; refine WA_k (fuel := 0) [0,1,2,3,4,5,6,7,8,9,10,11,12,13,14,15,16,17,18,19,20,21,22] rfl (by kernel_rfl) ?_; refine ym rfl rfl rfl ?_; refine yp rfl (v_ixs rfl underlying22 sizeOf5 rfl rfl (by omega)) rfl ?_
  refine yv rfl (v_ld rfl rfl isAgg5 (v := bV x0) g0) rfl ?_; refine yp rfl (n_cv rfl underlying5 underlying29 rfl kW (by omega)) rfl ?_; refine yp rfl (n_shl rfl rfl rfl kW (by decide) (by omega)) rfl ?_; refine ym rfl rfl rfl ?_; refine yp rfl (v_ixs rfl underlying22 sizeOf5 rfl rfl (by omega)) rfl ?_; refine yv rfl (v_ld rfl rfl isAgg5 g1) rfl ?_
  refine yp rfl (n_cv rfl underlying5 underlying29 rfl kW (by omega)) rfl ?_; refine yp rfl (n_shl rfl rfl rfl kW (by decide) (by omega)) rfl ?_; refine yp rfl (n_oradd2 (c := x0) (a := x1 * 2 ^ 16) (s := 24) rfl rfl rfl kW (by omega) (by omega) (by omega)) rfl ?_; refine ym rfl rfl rfl ?_; refine yp rfl (v_ixs rfl underlying22 sizeOf5 rfl rfl (by omega)) rfl ?_; refine yv rfl (v_ld rfl rfl isAgg5 g2) rfl ?_
  refine yp rfl (n_cv rfl underlying5 underlying29 rfl kW (by omega)) rfl ?_; refine yp rfl (n_shl rfl rfl rfl kW (by decide) (by omega)) rfl ?_; refine yp rfl (n_oradd2 (c := x0 * 256 + x1) (a := x2 * 2 ^ 8) (s := 16) rfl rfl rfl (hi := ⟨by omega⟩) kW (by omega) (by omega) (by omega)) rfl ?_; refine ym rfl rfl rfl ?_; refine yp rfl (v_ixs rfl underlying22 sizeOf5 rfl rfl (by omega)) rfl ?_
  refine yv rfl (v_ld rfl rfl isAgg5 g3) rfl ?_; refine yp rfl (n_cv rfl underlying5 underlying29 rfl kW (by omega)) rfl ?_; refine yp rfl (n_oradd2 (c := (x0 * 256 + x1) * 256 + x2) (a := x3) (s := 8) rfl rfl rfl (hi := ⟨by omega⟩) kW (by omega) (by omega) (by omega)) rfl ?_; refine yp rfl (v_as rfl rfl) rfl ?_; refine WK_nil ?_; refine WA_nil (by kernel_rfl) (sq_n (hK2 _ _ ?_)); refine W.keep [2] rfl ?_
  refine W_ret (ret_of (v := _) rfl ?_); refine ⟨?_, rfl⟩; show wV _ = wV _
  rw [hnum, show ((x0 * 256 + x1) * 256 + x2) * 2 ^ 8 + x3 = x0 * 16777216 + x1 * 65536 + x2 * 256 + x3 by omega]
theorem asks_spec (hd : Dat p S D) (hS : ∀ x ∈ S, x < 256) (hl : S.length < 2 ^ 60) (hcap : S.length ≤ cap) : CallsL Tryz.prog 8 #[.slice p S.length cap] D fun v H' => v = .tuple #[wV (asks S).1, .bool (asks S).2] ∧ H' = D := by
  have l1 := getD_256 hS 1; refine CallsL_of func8 rfl ntmps8 rfl ?_; try dsimp only [initE, Nat.zero_add]
  refine W_seq fun K1 hK1 => ?_; refine W_region ?_; refine xa rfl rfl ?_; refine xa rfl rfl ?_; refine WO_nil (sq_n (hK1 _ _ ?_)); refine W_seq fun K2 hK2 => ?_; refine W_seq fun K3 hK3 => ?_; by_cases h6 : S.length < 6
  · skip
    refine W_region ?_; refine xm rfl rfl ?_; refine xp (v_len rfl underlying22 rfl) rfl ?_; refine xp (v_lt rfl rfl rfl (dT (by omega))) rfl ?_; refine xm rfl rfl ?_; refine xno rfl ?_; refine xno rfl ?_; refine xno rfl ?_; refine xno rfl ?_; refine xno rfl ?_; refine xp (v_pt rfl rfl rfl) rfl ?_; refine WO_nil (sq_n (hK3 _ _ ?_)); refine W.keep [0,2,3,13] rfl ?_; refine W_cond_t rfl ?_; refine W_seq fun K4 hK4 => ?_
    refine W_region ?_; refine xa rfl rfl ?_; refine xa rfl rfl ?_; refine WO_nil (sq_n (hK4 _ _ ?_)); refine W_ret (sq_r (ret_of (v := _) rfl ?_)); unfold asks; rw [if_neg (fun h => by omega)]; exact ⟨rfl, rfl⟩
  · have hd0 := hd; obtain ⟨b2, off, c, ty, fz, r, rfl, hat, hcc⟩ := hd (by intro e; subst e; simp at h6); have hg1 : c[off + 1]? = some (bV (S.getD 1 0)) := by rw [hcc 1 (by omega), getD_in (by omega)]
    by_cases hf : S.getD 1 0 / 32 % 2 = 0
    · skip
      refine W_region ?_; refine xm rfl rfl ?_; refine xp (v_len rfl underlying22 rfl) rfl ?_; refine xp (v_lt rfl rfl rfl (dF (by omega))) rfl ?_; refine xm rfl rfl ?_; refine xm rfl rfl ?_; refine xp (v_ixs rfl underlying22 sizeOf5 rfl rfl (by omega)) rfl ?_; refine xv (v_ld rfl rfl isAgg5 hg1) rfl ?_; refine xp (n_and rfl rfl rfl kB (by omega) (by omega)) rfl ?_
      refine xp (v_eq rfl rfl rfl (dT (by rw [(and32 _ l1).2 hf]; rfl))) rfl ?_; refine xp (v_pf rfl rfl rfl) rfl ?_; refine WO_nil (sq_n (hK3 _ _ ?_)); refine W.keep [0,2,3,13] rfl ?_; refine W_cond_t rfl ?_; refine W_seq fun K5 hK5 => ?_; refine W_region ?_; refine xa rfl rfl ?_; refine xa rfl rfl ?_; refine WO_nil (sq_n (hK5 _ _ ?_)); refine W_ret (sq_r (ret_of (v := _) rfl ?_)); unfold asks
      rw [if_neg (fun h => by omega)]; exact ⟨rfl, rfl⟩
    · skip
      refine W_region ?_; refine xm rfl rfl ?_; refine xp (v_len rfl underlying22 rfl) rfl ?_; refine xp (v_lt rfl rfl rfl (dF (by omega))) rfl ?_; refine xm rfl rfl ?_; refine xm rfl rfl ?_; refine xp (v_ixs rfl underlying22 sizeOf5 rfl rfl (by omega)) rfl ?_; refine xv (v_ld rfl rfl isAgg5 hg1) rfl ?_; refine xp (n_and rfl rfl rfl kB (by omega) (by omega)) rfl ?_
      refine xp (v_eq rfl rfl rfl (dF (fun e => hf ((and32 _ l1).1 (by exact_mod_cast e))))) rfl ?_; refine xp (v_pf rfl rfl rfl) rfl ?_; refine WO_nil (sq_n (hK3 _ _ ?_)); refine W.keep [0,2,3,13] rfl ?_; refine W_cond_f rfl ?_; refine W_skip (sq_n (hK2 _ _ ?_)); refine W_seq fun K6 hK6 => ?_; refine W_region ?_; refine xm rfl rfl ?_
      refine xp (v_slp rfl underlying22 sizeOf5 rfl .none .none (.some rfl) (by omega) (by omega) (by omega) (by decide)) rfl ?_; refine wc (e_c rfl rfl rfl call16) rfl rfl rfl (number_m (S := (S.take S.length).drop 2) (by rw [List.length_drop, List.take_length]) (hd0.sub (l := 2) (u := S.length) (m := cap) (Nat.le_refl _) hcap) (fun x hx => hS x (List.mem_of_mem_take (List.mem_of_mem_drop hx))) (by omega)) .all ?_
      rintro _ _ ⟨rfl, rfl⟩; (try simp only [ap4]); refine xa rfl rfl ?_; refine xa rfl rfl ?_; refine WO_nil (sq_n (hK6 _ _ ?_)); refine W.keep [2,3] rfl ?_; refine W_ret (ret_of (v := _) rfl ?_); unfold asks; rw [if_pos ⟨by omega, by omega⟩, List.take_length, num4_drop]; exact ⟨rfl, rfl⟩
end
end Go.Proofs.YtpbahgddoamhgaaGreatDoor
namespace Go.Proofs.YtpbahgddoamhgaaGreatDoor
open Go.Proofs.Tryz
open Go Sx Pu
set_option maxRecDepth 10000

namespace Pu
variable {B : List Nat}
theorem cpy_mem {far : Nat} : ∀ (k : Nat) (out : List Nat), (∀ c ∈ out, c < 256) → ∀ c ∈ cpy far k out, c < 256
  | 0, _, h => h
  | k + 1, out, h => cpy_mem k _ fun c hc => (List.mem_append.1 hc).elim (h c) fun e => by rw [List.mem_singleton.1 e]; exact getD_256 h _
theorem rblk_mem {l d : Ents} : ∀ (k : Nat) (out : List Nat) (s : RS), (∀ c ∈ out, c < 256) → ∀ c ∈ (rblk B l d k out s).1, c < 256
  | 0, _, _, h => h
  | k + 1, out, s, h => by
    rw [rblk]; split
    · exact h
    · split
      · exact h
      · split
        · rename_i h3
          exact rblk_mem k _ _ fun c hc => (List.mem_append.1 hc).elim (h c) fun e => by rw [List.mem_singleton.1 e]; exact h3
        · split
          · exact h
          · split
            · exact h
            · split
              · exact h
              · exact rblk_mem k _ _ (cpy_mem _ _ h)
theorem rone_mem (hB : ∀ c ∈ B, c < 256) {kind : Nat} {out : List Nat} {s : RS} (h : ∀ c ∈ out, c < 256) : ∀ c ∈ (rone B kind out s).1, c < 256 := by
  have hb : ∀ (L1 L2 : List Nat) (t : RS), ∀ c ∈ (rblock B L1 L2 out t).1, c < 256 := fun L1 L2 t => by
    unfold rblock; split
    · exact rblk_mem _ _ _ h
    · exact rblk_mem _ _ _ h
  unfold rone; split
  · unfold rstored; split
    · exact h
    · exact fun c hc => (List.mem_append.1 hc).elim (h c) fun e => hB c (List.mem_of_mem_take (List.mem_of_mem_drop e))
  · split
    · exact hb _ _ _
    · split
      · split
        · exact h
        · exact hb _ _ _
      · exact h
theorem rinf_mem (hB : ∀ c ∈ B, c < 256) : ∀ (k : Nat) (out : List Nat) (last : Nat) (s : RS), (∀ c ∈ out, c < 256) → ∀ c ∈ (rinf B k out last s).1, c < 256
  | 0, _, _, _, h => h
  | k + 1, out, last, s, h => by
    rw [rinf]; split
    · exact h
    · exact rinf_mem hB k _ _ _ (rone_mem hB h)
theorem rinf_facts : ∀ (k : Nat) (out : List Nat) (last : Nat) (s : RS), s.at_ ≤ 8 * B.length → out.length ≤ 258 * s.at_ → (rinf B k out last s).2.at_ ≤ 8 * B.length ∧ (rinf B k out last s).1.length ≤ 258 * (rinf B k out last s).2.at_
  | 0, _, _, _, h, h2 => ⟨h, h2⟩
  | k + 1, out, last, s, h, h2 => by
    rw [rinf]; split
    · exact ⟨h, h2⟩
    · have g1 := rbit_le h; have g2 := rbits_le 2 g1; have g3 := rbit_mono B s; have g4 := rbits_mono B 2 (rbit B s).2; obtain ⟨f1, f2, f3⟩ := rone_facts (B := B) (out := out) (rbits B 2 (rbit B s).2).1 g2 (by omega); exact rinf_facts k _ _ _ f1 f3
theorem rinflate_some {o : List Nat} {u : Nat} (h : rinflate B = some (o, u)) : (rres B).2.fail = false ∧ (rres B).1 = o ∧ u = used (rres B) ∧ u ≤ B.length ∧ o.length ≤ 2064 * B.length := by
  have hf := rinf_facts (B := B) (8 * B.length + 2) [] 0 ⟨0, false⟩ (Nat.zero_le _) (Nat.zero_le _); have he : rinflate B = if (rres B).2.fail = true then none else some ((rres B).1, used (rres B)) := rfl; rw [he] at h; split at h
  · cases h
  · rename_i hh
    injection h with h
    injection h with h3 h4
    have hu : used (rres B) = ((rres B).2.at_ + 7) / 8 * 8 / 8 := rfl; obtain ⟨hf1, hf2⟩ : (rres B).2.at_ ≤ 8 * B.length ∧ (rres B).1.length ≤ 258 * (rres B).2.at_ := hf; refine ⟨by simpa using hh, h3, h4.symm, ?_, ?_⟩
    · rw [← h4, hu]; omega
    · rw [← h3]; omega
theorem rinflate_none (h : rinflate B = none) : (rres B).2.fail = true := by
  have he : rinflate B = if (rres B).2.fail = true then none else some ((rres B).1, used (rres B)) := rfl; rw [he] at h; split at h
  · assumption
  · cases h
end Pu
def strV (L : List Nat) : Value := .string (strOfNums (L.map fun (a : Nat) => (a : Int)))
section
variable {n : Nat} {E : El} {H : Hl} {o : Oper} {x y : Operand} {t' : TypeId}
theorem v_cvs {p : Option Addr} {L : List Nat} {cap m : Nat} (ho : o.op = .convert 22 9 x) (hx : ev E x = some (.slice p m cap)) (hm : L.length = m) (hd : DatV bV p L H) : OV Tryz.prog n E H o (strV L) := fun O F a w hag hp => by
  have h : (convert 22 9 (.slice p m cap)).run Tryz.prog w = .ok (strV L) w := by
    subst hm; match L, hd with
    | [], _ =>
      show (convert 22 9 (.slice p 0 cap)).run Tryz.prog w = _
      rw [run_convert_bytes_string w 22 9 5 _ 0 cap underlying22 underlying5 underlying9]
      cases p with
      | none => simp [Conv.bytesToString]; rfl
      | some q => simp [Conv.bytesToString, loadCells, loadCellsFrom]; rfl
    | c0 :: L, hd =>
      obtain ⟨b, off, c, ty, fz, r, rfl, hat, hcc⟩ := hd (by simp); refine run_convert_bytes_arg w 22 5 underlying22 underlying5 b off _ cap ((c0 :: L).map fun (a : Nat) => (a : Int)) (by simp) (fun i hi => ?_) 9 underlying9; rw [cell_of (v := .int .u8 (((c0 :: L)[i] : Nat) : Int)) hp hat (hcc i hi)]; congr 2
      rw [List.getD_eq_getElem?_getD, List.getElem?_map, List.getElem?_eq_getElem hi]; rfl
  simp [execOp, ho, ev_sound hag hx, h]
theorem ba_beq (b : ByteArray) : (b == b) = true := by
  cases b with
  | mk d => exact (beq_self_eq_true d : (d == d) = true)
theorem v_eqst {L : List Nat} (ho : o.op = .binOp .eql 9 x y t') (hx : ev E x = some (strV L)) (hy : ev E y = some (strV L)) : OP Tryz.prog n E o (.bool true) := fun a w ha => by
  unfold strV at hx hy; generalize strOfNums _ = b at hx hy; simp [execOp, ho, ev_sound ha hx, ev_sound ha hy, eqGuard, binOp, Op.stringOp, ba_beq]
end
section
variable {D : Hl} {p q : Option Addr} {cap cap2 m k : Nat} {L : List Nat}
theorem same_spec (hm : L.length = m) (hk : L.length = k) (hd : DatV bV p L D) (hd2 : DatV bV q L D) : CallsL Tryz.prog 10 #[.slice p m cap, .slice q k cap2] D fun v H' => v = .bool true ∧ H' = D := by
  refine CallsL_of func10 rfl ntmps10 rfl ?_; try dsimp only [initE, Nat.zero_add]
  refine W_seq fun K1 hK1 => ?_; refine W_region ?_; refine xa rfl rfl ?_; refine WO_nil (sq_n (hK1 _ _ ?_)); refine W_seq fun K2 hK2 => ?_; refine W_region ?_; refine xm rfl rfl ?_; refine xv (v_cvs rfl rfl hm hd) rfl ?_; refine xm rfl rfl ?_; refine xv (v_cvs rfl rfl hk hd2) rfl ?_; refine xp (v_eqst rfl rfl rfl) rfl ?_; refine xa rfl rfl ?_; refine WO_nil (sq_n (hK2 _ _ ?_)); refine W.keep [4] rfl ?_
  refine W_ret (ret_of (v := _) rfl ?_); exact ⟨rfl, rfl⟩
end
end Go.Proofs.YtpbahgddoamhgaaGreatDoor
namespace Go.Proofs.YtpbahgddoamhgaaGreatDoor
open Go.Proofs.Tryz
open Go Sx Pu
set_option maxRecDepth 10000

namespace Pu
def zs (tb : Nat) (A : List Nat) (V : List Int) (K : Nat) : List Nat := [120, tb] ++ dloop A K V 0 0 ([], 0) ++ be4 (adler A)
def unzl (S : List Nat) : Option (List Nat × Nat) :=
  if 2 ≤ S.length ∧ hd2 (S.getD 0 0) (S.getD 1 0) ∧ S.getD 1 0 / 32 % 2 = 0 then
    match rinflate (S.drop 2) with
    | none => none
    | some (o, u) => if 2 + u + 4 ≤ S.length ∧ num4 S (2 + u) = adler o then some (o, 2 + u + 4) else none
  else none
end Pu
section
variable {D : Hl} {p pl : Option Addr} {cap capl m lv tb K : Nat} {A S : List Nat} {V : List Int}
theorem inflate_m (hm : S.length = m) (hcap : m ≤ cap) (hd : Dat p S D) (hB : ∀ x ∈ S, x < 256) (hl : m < 2 ^ 34) :
    CallsL Tryz.prog 11 #[.slice p m cap, .slice none 0 0] D fun v H' => ∃ G, InfR (rinflate S) v G ∧ H' = G ++ D := by
  subst hm; exact inflate_spec hcap hd hB hl
set_option maxHeartbeats 1000000 in
theorem zlib_spec (hlv : lv < 4) (hlo : ∀ b, b < tb → 64 * lv ≤ b → ¬ hd2 120 b) (hhi : hd2 120 tb) (htb : tb < 256) (hlt : 64 * lv ≤ tb)
    (hd : Dat p A D) (hA : ∀ c ∈ A, c < 256) (hl : A.length ≤ 2 ^ 21) (hz : DatZ pl V D) (hV : ZW V) (hvl : V.length < 2 ^ 62) (hKa : dmeas A V 0 0 < K) (hKb : K ≤ 2 ^ 30) :
    CallsL Tryz.prog 5 #[.slice p A.length cap, .slice none 0 0, .bool false, .int .i64 7, iV lv, .slice pl V.length capl] D fun v H' => ∃ po co G, v = .slice po (zs tb A V K).length co ∧ OwnV bV 5 po co (zs tb A V K) G ∧ H' = G ++ D := by
  have hdl := dloop_ok hA K V 0 0 ([], 0) (Nat.zero_le _) ⟨Nat.le_refl _, by decide, by simp⟩; dsimp only at hdl; have hal := adler_lt A; have hzs : zs tb A V K = [120, tb] ++ dloop A K V 0 0 ([], 0) ++ be4 (adler A) := rfl; generalize zs tb A V K = Z at *; refine CallsL_of func5 rfl ntmps5 rfl ?_; try dsimp only [initE, Nat.zero_add]
  refine W_seq fun K1 hK1 => ?_; refine W_region ?_; refine xa rfl rfl ?_; refine WO_nil (sq_n (hK1 _ _ ?_)); refine W_seq fun K2 hK2 => ?_; refine W_region ?_; refine xm rfl rfl ?_; refine xp (n_rem rfl rfl rfl (by omega)) rfl ?_; refine xp (n_add rfl rfl rfl kI (by omega)) rfl ?_; refine xp (n_rem rfl rfl rfl (by omega)) rfl ?_; refine xp (n_mul rfl rfl rfl kI (by omega)) rfl ?_
  refine xp (n_add rfl rfl rfl kI (by omega)) rfl ?_; refine xp (n_cvm rfl underlying3 underlying5 rfl uB) rfl ?_; refine xa rfl rfl ?_; refine WO_nil (sq_n (hK2 _ _ ?_)); refine W.keep [0,1,2,4,5,12,13] rfl ?_; refine W_seq_mid (fun E H => Sub E [(0, .slice p A.length cap), (1, .slice none 0 0), (2, .bool false), (5, .slice pl V.length capl), (13, bV 120), (14, bV (64 * lv))] ∧ H = D) ?_ ?_
  · skip
    refine W_region ?_; refine xm rfl rfl ?_; refine xp (n_rem rfl rfl rfl (by omega)) rfl ?_; refine xp (n_add rfl rfl rfl kI (by omega)) rfl ?_; refine xp (n_rem rfl rfl rfl (by omega)) rfl ?_; refine xp (n_mul rfl rfl rfl kI (by omega)) rfl ?_; refine xp (n_cvm rfl underlying3 underlying5 rfl uB) rfl ?_; refine xa rfl rfl ?_; refine WO_nil (sq_n (?_))
    exact ⟨⟨rfl, rfl, rfl, rfl, rfl, congrArg (fun n => some (bV n)) (by omega), trivial⟩, rfl⟩
  · rintro E H ⟨hE, hH⟩; rw [hH]; refine W.env hE ?_; refine W_seq fun K4 hK4 => ?_; refine W_seq fun K5 hK5 => ?_; refine W_region ?_; refine xm rfl rfl ?_; refine WO_nil (sq_n (hK5 _ _ ?_)); refine W_cond_f rfl ?_; refine W_skip (sq_n (hK4 _ _ ?_)); refine W_seq fun K6 hK6 => ?_; refine W_block ?_
    refine W_loop (fun m E H => ∃ b, 64 * lv ≤ b ∧ b ≤ tb ∧ m = tb - b ∧ Sub E [(0, .slice p A.length cap), (1, .slice none 0 0), (2, .bool false), (5, .slice pl V.length capl), (13, bV 120), (14, bV b)] ∧ H = D) (m := _) (⟨64 * lv, Nat.le_refl _, hlt, rfl, ⟨rfl, rfl, rfl, rfl, rfl, rfl, trivial⟩, rfl⟩) ?_; rintro m E H ⟨b, hb, hb2, rfl, hE, hH⟩; rw [hH]; refine W.env hE ?_; refine W_seq fun K7 hK7 => ?_
    refine W_seq fun K8 hK8 => ?_; by_cases hbt : b < tb
    · skip
      refine W_region ?_; refine xm rfl rfl ?_; refine xm rfl rfl ?_; refine wc (e_c rfl rfl rfl call13) rfl rfl rfl (isHeader_spec (by decide) (by omega)) .all ?_; rintro _ Hx ⟨rfl, hHx⟩; rw [hHx, decide_eq_false (hlo b hbt hb)]; (try simp only [ap4]); refine xp (v_not rfl rfl rfl) rfl ?_; refine WO_nil (sq_n (hK8 _ _ ?_)); refine W_cond_t rfl ?_; refine W_skip (sq_n (hK7 _ _ ?_)); refine W_block ?_
      refine W_region ?_; refine xm rfl rfl ?_; refine xp (n_add rfl rfl rfl kB (by omega)) rfl ?_; refine xa rfl rfl ?_; refine WO_nil (bl_n (sq_n (?_))); exact ⟨tb - (b + 1), by omega, b + 1, by omega, by omega, rfl, ⟨rfl, rfl, rfl, rfl, rfl, rfl, trivial⟩, rfl⟩
    · obtain rfl : b = tb := by omega
      refine W_region ?_; refine xm rfl rfl ?_; refine xm rfl rfl ?_; refine wc (e_c rfl rfl rfl call13) rfl rfl rfl (isHeader_spec (by decide) (by omega)) .all ?_; rintro _ Hx ⟨rfl, hHx⟩; rw [hHx, decide_eq_true hhi]; (try simp only [ap4]); refine xp (v_not rfl rfl rfl) rfl ?_; refine WO_nil (sq_n (hK8 _ _ ?_)); refine W_cond_f rfl ?_; refine W_exit (sq_x (sq_x (bl_x (sq_n (hK6 _ _ ?_)))))
      refine W.keep [0,1,2,5,13,14] rfl ?_; refine W_seq fun K9 hK9 => ?_; refine W_region ?_; refine xm rfl rfl ?_; refine xm rfl rfl ?_; refine ws (v_bs (List.toArray [bV 120, bV b]) 5 2 rfl rfl (by intro w; kernel_rfl)) rfl rfl rfl ?_; rintro _ _ ⟨bo, rfl, rfl, _⟩; refine xa rfl rfl ?_; refine WO_nil (sq_n (hK9 _ _ ?_)); refine W.keep [0,1,2,5,15] rfl ?_; refine W_seq fun K10 hK10 => ?_
      refine W_seq fun K11 hK11 => ?_; refine W_region ?_; refine xm rfl rfl ?_; refine WO_nil (sq_n (hK11 _ _ ?_)); refine W_cond_f rfl ?_; refine W_region ?_; refine xa rfl rfl ?_; refine WO_nil (sq_n (hK10 _ _ ?_)); refine W_seq fun K12 hK12 => ?_; refine W_region ?_; refine xm rfl rfl ?_; refine xm rfl rfl ?_; refine xm rfl rfl ?_; refine xm rfl rfl ?_
      refine wc (e_c rfl rfl rfl call15) rfl rfl rfl (deflate_spec hd hA hl hz hV hvl hKa hKb) (.skip .all) ?_; rintro _ _ ⟨p1, c1, G, rfl, hdt, rfl⟩; (try simp only [ap4])
      refine wapp (bytes := 1) rfl underlying22 underlying22 sizeOf5 typeInfo5 rfl zeroValue5 rfl rfl rfl (OwnV.row (f := bV) (b := bo) (L := [120, b])) rfl ((hdt.appl D).cons _) rfl (fun _ => rfl) (by simp only [List.length_cons, List.length_nil]; omega) (by simp only [List.length_cons, List.length_nil]; omega) rfl rfl rfl ?_; intro p2 c2 H2 hO2; refine xa rfl rfl ?_; refine WO_nil (sq_n (hK12 _ _ ?_))
      refine W.keep [0,15] rfl ?_; refine W_seq fun K13 hK13 => ?_; refine W_region ?_; refine xm rfl rfl ?_; refine xm rfl rfl ?_; refine wc (e_c rfl rfl rfl call12) rfl rfl rfl (adler_spec hd hA (by omega)) (.app (.app .all)) ?_; rintro _ Hx ⟨rfl, hHx⟩; rw [hHx]; (try simp only [ap4]); refine wc (e_c rfl rfl rfl call14) rfl rfl rfl (four_spec hal) .nil ?_; rintro _ _ ⟨bf4, rfl, rfl⟩; (try simp only [ap4])
      refine wapp (bytes := 1) rfl underlying22 underlying22 sizeOf5 typeInfo5 rfl zeroValue5 rfl rfl rfl hO2 rfl (M := be4 (adler A)) (((datV_row.app D).app G).app H2) rfl (fun _ => rfl) (by simp only [List.length_append, List.length_cons, List.length_nil, be4]; omega) (by simp only [List.length_append, List.length_cons, List.length_nil, be4]; omega) rfl rfl rfl ?_; intro p3 c3 H3 hO3
      refine WO_drop (H' := H3 ++ D) (.pre (.app .front)) ?_; refine xa rfl rfl ?_; refine WO_nil (sq_n (hK13 _ _ ?_)); refine W.keep [12] rfl ?_; refine W_ret (ret_of (v := _) rfl ?_); subst hzs; exact ⟨p3, c3, H3, rfl, hO3, rfl⟩
end
end Go.Proofs.YtpbahgddoamhgaaGreatDoor
namespace Go.Proofs.YtpbahgddoamhgaaGreatDoor
open Go.Proofs.Tryz
open Go Sx Pu
set_option maxRecDepth 10000

namespace Pu
def z0 : List Nat := [120, 1, 5, 192, 33, 9, 0, 0, 0, 0, 160, 254, 191, 127, 21, 0, 0, 0, 1]
set_option maxRecDepth 100000 in
theorem z0_eq : zs 1 [] [] 1 = z0 := by kernel_rfl
set_option maxRecDepth 100000 in
theorem z0_res : (rres (z0.drop 2)).1 = [] := by kernel_rfl
set_option maxRecDepth 100000 in
theorem z0_res2 : (rres (z0.drop 2)).2 = ⟨104, false⟩ := by kernel_rfl
theorem z0_unz : unz z0 [] 0 := by
  have hu : used (rres (z0.drop 2)) = 13 := by unfold used; rw [z0_res2]; rfl
  exact ⟨2, .two ⟨by decide, by decide, by decide, by decide⟩ (by decide), by rw [z0_res2], z0_res, by rw [hu]; decide, by rw [hu]; decide, by rw [hu]; decide⟩
theorem unz_uniq {S L M : List Nat} {r q : Nat} (h : unz S L r) (h2 : unz S M q) : L = M ∧ r = q := by
  obtain ⟨o, h1, _, h3, _, _, h6⟩ := h; obtain ⟨o2, g1, _, g3, _, _, g6⟩ := h2; obtain rfl := HOff.uniq h1 g1; exact ⟨h3.symm.trans g3, h6.trans g6.symm⟩
end Pu
section
variable {D : Hl} {p : Option Addr} {cap : Nat} {S : List Nat} {eof shb uex hdr dic chk : Addr}
set_option maxHeartbeats 1000000 in
theorem unzlib_spec (hd : Dat p S D) (hS : ∀ x ∈ S, x < 256) (hl : S.length < 2 ^ 34) (hcap : S.length ≤ cap) :
    CallsL Tryz.prog 6 #[.slice p S.length cap, .slice none 0 0, .bool false] D fun v H' => ∃ G, InfR (unzl S) v G ∧ H' = G ++ D := by
  have l0 := getD_256 hS 0; have l1 := getD_256 hS 1; refine CallsL_of func6 rfl ntmps6 rfl ?_; try dsimp only [initE, Nat.zero_add]
  refine W_seq fun K1 hK1 => ?_; refine W_region ?_; refine xa rfl rfl ?_; refine xa rfl rfl ?_; refine xa rfl rfl ?_; refine WO_nil (sq_n (hK1 _ _ ?_)); refine W_seq fun K2 hK2 => ?_; refine W_seq fun K3 hK3 => ?_; by_cases h2 : S.length < 2
  · skip
    refine W_draw mixed ?_; refine WA_k (fuel := 3) [0,1,2,3,4,5,6,7,8,9] rfl (by kernel_rfl) ?_; refine ym rfl rfl rfl ?_; refine yp rfl (v_len rfl underlying22 rfl) rfl ?_; refine yp rfl (v_lt rfl rfl rfl (dT (by omega))) rfl ?_; refine ym rfl rfl rfl ?_; refine yno rfl rfl ?_; refine yno rfl rfl ?_; refine yno rfl rfl ?_; refine yno rfl rfl ?_; refine yno rfl rfl ?_; refine yno rfl rfl ?_; refine WK_nil ?_
    refine WA_one (k := 10) rfl (by kernel_rfl) ?_; refine xno rfl ?_; refine WO_nil (sq_n ?_); refine WA_k (fuel := 0) [11,12] rfl (by kernel_rfl) ?_; refine yno rfl rfl ?_; refine yp rfl (v_pt rfl rfl rfl) rfl ?_; refine WK_nil ?_; refine WA_nil (by kernel_rfl) (sq_n (hK3 _ _ ?_)); refine W.keep [0,1,2,6,7,8,24] rfl ?_; refine W_cond_t rfl ?_; refine W_seq fun K4 hK4 => ?_; refine W_region ?_; refine xa rfl rfl ?_
    refine xa rfl rfl ?_; refine xa rfl rfl ?_; refine WO_nil (sq_n (hK4 _ _ ?_)); refine W_ret (sq_r (ret_of (v := _) rfl ?_)); refine ⟨[], ?_, rfl⟩; unfold unzl; rw [if_neg (fun h => by omega)]; exact rfl
  · have hd0 := hd; obtain ⟨b2, off, c, ty, fz, r, rfl, hat, hcc⟩ := hd (by intro e; subst e; simp at h2); have hg0 : c[off]? = some (bV (S.getD 0 0)) := by have := hcc 0 (by omega); rw [Nat.add_zero] at this; rw [this, getD_in (by omega)]
    have hg1 : c[off + 1]? = some (bV (S.getD 1 0)) := by rw [hcc 1 (by omega), getD_in (by omega)]
    by_cases h3 : hd2 (S.getD 0 0) (S.getD 1 0)
    · skip
      refine W_draw mixed ?_; refine WA_k (fuel := 3) [0,1,2,3,4,5,6,7,8,9] rfl (by kernel_rfl) ?_; refine ym rfl rfl rfl ?_; refine yp rfl (v_len rfl underlying22 rfl) rfl ?_; refine yp rfl (v_lt rfl rfl rfl (dF (by omega))) rfl ?_; refine ym rfl rfl rfl ?_; refine ym rfl rfl rfl ?_; refine yp rfl (v_ixs rfl underlying22 sizeOf5 rfl rfl (by omega)) rfl ?_
      refine yv rfl (v_ld rfl rfl isAgg5 (v := bV (S.getD 0 0)) hg0) rfl ?_; refine ym rfl rfl rfl ?_; refine yp rfl (v_ixs rfl underlying22 sizeOf5 rfl rfl (by omega)) rfl ?_; refine yv rfl (v_ld rfl rfl isAgg5 hg1) rfl ?_; refine WK_nil ?_; refine WA_one (k := 10) rfl (by kernel_rfl) ?_; refine wc (e_c rfl rfl rfl call13) rfl rfl rfl (isHeader_spec l0 l1) .all ?_; rintro _ Hx ⟨rfl, hHx⟩; rw [hHx, decide_eq_true h3]
      (try simp only [ap4]); refine WO_nil (sq_n ?_); refine WA_k (fuel := 0) [11,12] rfl (by kernel_rfl) ?_; refine yp rfl (v_not rfl rfl rfl) rfl ?_; refine yp rfl (v_pf rfl rfl rfl) rfl ?_; refine WK_nil ?_; refine WA_nil (by kernel_rfl) (sq_n (hK3 _ _ ?_)); refine W.keep [0,1,2,6,7,8,24] rfl ?_; refine W_cond_f rfl ?_; refine W_skip (sq_n (hK2 _ _ ?_)); refine W_seq fun K5 hK5 => ?_; refine W_region ?_
      refine xa rfl rfl ?_; refine WO_nil (sq_n (hK5 _ _ ?_)); refine W_seq fun K6 hK6 => ?_; refine W_seq fun K7 hK7 => ?_; by_cases hf : S.getD 1 0 / 32 % 2 = 0
      · skip
        refine W_region ?_; refine xm rfl rfl ?_; refine xp (v_ixs rfl underlying22 sizeOf5 rfl rfl (by omega)) rfl ?_; refine xv (v_ld rfl rfl isAgg5 hg1) rfl ?_; refine xp (n_and rfl rfl rfl kB (by omega) (by omega)) rfl ?_; refine xp (v_ne rfl rfl rfl (dF (fun e => e (by rw [(and32 _ l1).2 hf]; rfl)))) rfl ?_; refine WO_nil (sq_n (hK7 _ _ ?_)); refine W.keep [0,1,2,6,7,8,9,29] rfl ?_; refine W_cond_f rfl ?_
        refine W_region ?_; refine xa rfl rfl ?_; refine WO_nil (sq_n (hK6 _ _ ?_)); refine W_seq fun K8 hK8 => ?_
        have hdd : DatV bV (pmv (some ⟨b2, off, none⟩) cap 2 1) (S.drop 2) D := by
          have := hd0.sub (l := 2) (u := S.length) (m := cap) (Nat.le_refl _) hcap; rwa [List.take_length] at this
        have hSd : ∀ x ∈ S.drop 2, x < 256 := fun x hx => hS x (List.mem_of_mem_drop hx); rcases hri : rinflate (S.drop 2) with _ | ⟨o, u⟩
        · skip
          refine W_region ?_; refine xm rfl rfl ?_; refine xm rfl rfl ?_; refine xp (v_slp rfl underlying22 sizeOf5 rfl .none .none (.some rfl) (by omega) (by omega) (by omega) (by decide)) rfl ?_; refine xm rfl rfl ?_; refine wc (e_c rfl rfl rfl call11) rfl rfl rfl (inflate_m (S := S.drop 2) (by rw [List.length_drop]) (by omega) hdd hSd (by omega)) .all ?_; rintro v _ ⟨G, hv, rfl⟩; rw [hri] at hv
          change v = .tuple #[.slice none 0 0, .int .i64 0, .bool false] at hv
          subst hv; (try simp only [ap4]); refine xm rfl rfl ?_; refine xp (v_ex rfl rfl rfl) rfl ?_; refine xp (v_ex rfl rfl rfl) rfl ?_; refine xp (v_ex rfl rfl rfl) rfl ?_; refine xa rfl rfl ?_; refine xa rfl rfl ?_; refine xa rfl rfl ?_; refine WO_nil (sq_n (hK8 _ _ ?_)); refine W.keep [0,9,6,7,8] rfl ?_; refine W_seq fun K9 hK9 => ?_; refine W_region ?_; refine xm rfl rfl ?_; refine xm rfl rfl ?_
          refine xp (n_add rfl rfl rfl kI (by omega)) rfl ?_; refine xa rfl rfl ?_; refine WO_nil (sq_n (hK9 _ _ ?_)); refine W.keep [0,6,7,8,9] rfl ?_; refine W_seq fun K10 hK10 => ?_; refine W_seq fun K11 hK11 => ?_; refine W_region ?_; refine xm rfl rfl ?_; refine xp (v_not rfl rfl rfl) rfl ?_; refine xm rfl rfl ?_; refine xno rfl ?_; refine xno rfl ?_; refine xno rfl ?_; refine xno rfl ?_; refine xno rfl ?_
          refine xp (v_pt rfl rfl rfl) rfl ?_; refine xm rfl rfl ?_; refine xno rfl ?_; refine xno rfl ?_; refine xno rfl ?_; refine xno rfl ?_; refine xno rfl ?_; refine xno rfl ?_; refine xno rfl ?_; refine xp (v_pt rfl rfl rfl) rfl ?_; refine WO_nil (sq_n (hK11 _ _ ?_)); refine W.keep [6,7,8,9,76] rfl ?_; refine W_cond_t rfl ?_; refine W_seq fun K12 hK12 => ?_; refine W_region ?_; refine xa rfl rfl ?_
          refine xa rfl rfl ?_; refine xa rfl rfl ?_; refine WO_nil (sq_n (hK12 _ _ ?_)); refine W_ret (sq_r (ret_of (v := _) rfl ?_)); refine ⟨G, ?_, rfl⟩; unfold unzl; rw [if_pos ⟨by omega, h3, hf⟩, hri]; exact rfl
        · obtain ⟨hr1, hr2, hr3, hr4, hr5⟩ := rinflate_some hri; rw [List.length_drop] at hr4 hr5; have hom : ∀ c ∈ o, c < 256 := hr2 ▸ rinf_mem hSd _ _ _ _ (by simp); refine W_region ?_; refine xm rfl rfl ?_; refine xm rfl rfl ?_; refine xp (v_slp rfl underlying22 sizeOf5 rfl .none .none (.some rfl) (by omega) (by omega) (by omega) (by decide)) rfl ?_; refine xm rfl rfl ?_
          refine wc (e_c rfl rfl rfl call11) rfl rfl rfl (inflate_m (S := S.drop 2) (by rw [List.length_drop]) (by omega) hdd hSd (by omega)) .all ?_; rintro v _ ⟨G, hv, rfl⟩; rw [hri] at hv; obtain ⟨p1, c1, hv, hdt⟩ := hv; subst hv; (try simp only [ap4]); refine xm rfl rfl ?_; refine xp (v_ex rfl rfl rfl) rfl ?_; refine xp (v_ex rfl rfl rfl) rfl ?_; refine xp (v_ex rfl rfl rfl) rfl ?_; refine xa rfl rfl ?_
          refine xa rfl rfl ?_; refine xa rfl rfl ?_; refine WO_nil (sq_n (hK8 _ _ ?_)); refine W.keep [0,9,6,7,8] rfl ?_; refine W_seq fun K13 hK13 => ?_; refine W_region ?_; refine xm rfl rfl ?_; refine xm rfl rfl ?_; refine xp (n_add rfl rfl rfl kI (by omega)) rfl ?_; refine xa rfl rfl ?_; refine WO_nil (sq_n (hK13 _ _ ?_)); refine W.keep [0,6,7,8,9] rfl ?_; refine W_seq fun K14 hK14 => ?_
          refine W_seq fun K15 hK15 => ?_; by_cases hlen : S.length < 2 + u + 4
          · skip
            refine W_region ?_; refine xm rfl rfl ?_; refine xp (v_not rfl rfl rfl) rfl ?_; refine xm rfl rfl ?_; refine xm rfl rfl ?_; refine xp (v_len rfl underlying22 rfl) rfl ?_; refine xm rfl rfl ?_; refine xp (n_add rfl rfl rfl kI (by omega)) rfl ?_; refine xp (v_lt rfl rfl rfl (dT (by omega))) rfl ?_; refine xp (v_pf rfl rfl rfl) rfl ?_; refine xm rfl rfl ?_; refine xno rfl ?_; refine xno rfl ?_
            refine xno rfl ?_; refine xno rfl ?_; refine xno rfl ?_; refine xno rfl ?_; refine xno rfl ?_; refine xp (v_pt rfl rfl rfl) rfl ?_; refine WO_nil (sq_n (hK15 _ _ ?_)); refine W.keep [6,7,8,9,76] rfl ?_; refine W_cond_t rfl ?_; refine W_seq fun K16 hK16 => ?_; refine W_region ?_; refine xa rfl rfl ?_; refine xa rfl rfl ?_; refine xa rfl rfl ?_; refine WO_nil (sq_n (hK16 _ _ ?_))
            refine W_ret (sq_r (ret_of (v := _) rfl ?_)); refine ⟨G, ?_, rfl⟩; unfold unzl; rw [if_pos ⟨by omega, h3, hf⟩, hri]; dsimp only; rw [if_neg (fun h => by omega)]; exact rfl
          · have hdn : DatV bV (pmv (some ⟨b2, off, none⟩) cap (2 + u) 1) (S.drop (2 + u)) D := by
              have := hd0.sub (l := 2 + u) (u := S.length) (m := cap) (Nat.le_refl _) hcap; rwa [List.take_length] at this
            refine W_region ?_; refine xm rfl rfl ?_; refine xp (v_not rfl rfl rfl) rfl ?_; refine xm rfl rfl ?_; refine xm rfl rfl ?_; refine xp (v_len rfl underlying22 rfl) rfl ?_; refine xm rfl rfl ?_; refine xp (n_add rfl rfl rfl kI (by omega)) rfl ?_; refine xp (v_lt rfl rfl rfl (dF (by omega))) rfl ?_; refine xp (v_pf rfl rfl rfl) rfl ?_; refine xm rfl rfl ?_; refine xm rfl rfl ?_; refine xm rfl rfl ?_
            refine xp (v_slp rfl underlying22 sizeOf5 rfl .none .none (.some rfl) (by omega) (by omega) (by omega) (by decide)) rfl ?_; refine wc (e_c rfl rfl rfl call16) rfl rfl rfl (number_m (S := S.drop (2 + u)) (by rw [List.length_drop]) (hdn.app G) (fun x hx => hS x (List.mem_of_mem_drop hx)) (by omega)) .all ?_; rintro _ Hx ⟨rfl, hHx⟩; rw [hHx, num4_drop, Nat.add_zero]; (try simp only [ap4])
            refine xm rfl rfl ?_; refine wc (e_c rfl rfl rfl call12) rfl rfl rfl (adler_spec (hdt.appl D) hom (by omega)) .all ?_; rintro _ Hx ⟨rfl, hHx⟩; rw [hHx]; (try simp only [ap4]); refine xp (n_ne rfl rfl rfl) rfl ?_; refine xp (v_pf rfl rfl rfl) rfl ?_; refine WO_nil (sq_n (hK15 _ _ ?_)); refine W.keep [6,7,8,9,76] rfl ?_; refine W_cond rfl (fun hc3 => ?_) (fun hc3 => ?_)
            · replace hc3 := of_decide_eq_true hc3; refine W_seq fun K17 hK17 => ?_; refine W_region ?_; refine xa rfl rfl ?_; refine xa rfl rfl ?_; refine xa rfl rfl ?_; refine WO_nil (sq_n (hK17 _ _ ?_)); refine W_ret (sq_r (ret_of (v := _) rfl ?_)); first
              | (have hq : ¬ ¬ num4 S (2 + u) = adler o := hc3; refine ⟨G, ?_, rfl⟩; unfold unzl; rw [if_pos ⟨by omega, h3, hf⟩, hri]; dsimp only; rw [if_pos ⟨by omega, Decidable.not_not.1 hq⟩]; exact ⟨p1, c1, rfl, hdt⟩)
              | (have hq : ¬ num4 S (2 + u) = adler o := hc3; refine ⟨G, ?_, rfl⟩; unfold unzl; rw [if_pos ⟨by omega, h3, hf⟩, hri]; dsimp only; rw [if_neg (fun h => hq h.2)]; exact rfl)
            · replace hc3 := of_decide_eq_false hc3; refine W_skip (sq_n (hK14 _ _ ?_)); refine W_seq fun K18 hK18 => ?_; refine W_region ?_; refine xm rfl rfl ?_; refine xm rfl rfl ?_; refine xp (n_add rfl rfl rfl kI (by omega)) rfl ?_; refine xa rfl rfl ?_; refine xa rfl rfl ?_; refine xa rfl rfl ?_; refine WO_nil (sq_n (hK18 _ _ ?_)); refine W.keep [6,7,8] rfl ?_; refine W_ret (ret_of (v := _) rfl ?_); first
              | (have hq : ¬ ¬ num4 S (2 + u) = adler o := hc3; refine ⟨G, ?_, rfl⟩; unfold unzl; rw [if_pos ⟨by omega, h3, hf⟩, hri]; dsimp only; rw [if_pos ⟨by omega, Decidable.not_not.1 hq⟩]; exact ⟨p1, c1, rfl, hdt⟩)
              | (have hq : ¬ num4 S (2 + u) = adler o := hc3; refine ⟨G, ?_, rfl⟩; unfold unzl; rw [if_pos ⟨by omega, h3, hf⟩, hri]; dsimp only; rw [if_neg (fun h => hq h.2)]; exact rfl)
      · skip
        refine W_region ?_; refine xm rfl rfl ?_; refine xp (v_ixs rfl underlying22 sizeOf5 rfl rfl (by omega)) rfl ?_; refine xv (v_ld rfl rfl isAgg5 hg1) rfl ?_; refine xp (n_and rfl rfl rfl kB (by omega) (by omega)) rfl ?_; refine xp (v_ne rfl rfl rfl (dT (fun e => hf ((and32 _ l1).1 (by exact_mod_cast e))))) rfl ?_; refine WO_nil (sq_n (hK7 _ _ ?_)); refine W.keep [0,1,2,6,7,8,9,29] rfl ?_; refine W_cond_t rfl ?_
        refine W_seq fun K19 hK19 => ?_; by_cases h6 : 6 ≤ S.length
        · have hak : asks S = (num4 S 2, true) := by unfold asks; rw [if_pos ⟨h6, by omega⟩]
          refine W_region ?_; refine xm rfl rfl ?_; refine wc (e_c rfl rfl rfl call8) rfl rfl rfl (asks_spec hd0 hS (by omega) hcap) .all ?_; rintro _ Hx ⟨rfl, hHx⟩; rw [hHx, hak]; (try simp only [ap4]); refine xm rfl rfl ?_; refine xp (v_ex rfl rfl rfl) rfl ?_; refine xp (v_ex rfl rfl rfl) rfl ?_; refine xa rfl rfl ?_; refine xa rfl rfl ?_; refine WO_nil (sq_n (hK19 _ _ ?_))
          refine W.keep [0,1,2,6,7,8,9,10,11] rfl ?_; refine W_seq fun K20 hK20 => ?_; refine W_seq fun K21 hK21 => ?_; refine W_region ?_; refine xm rfl rfl ?_; refine xp (v_not rfl rfl rfl) rfl ?_; refine xm rfl rfl ?_; refine xm rfl rfl ?_; refine xp (v_not rfl rfl rfl) rfl ?_; refine xp (v_pf rfl rfl rfl) rfl ?_; refine xm rfl rfl ?_; refine xno rfl ?_; refine xno rfl ?_; refine xno rfl ?_; refine xno rfl ?_
          refine xp (v_pt rfl rfl rfl) rfl ?_; refine WO_nil (sq_n (hK21 _ _ ?_)); refine W.keep [0,1,6,7,8,9,46] rfl ?_; refine W_cond_t rfl ?_; refine W_seq fun K22 hK22 => ?_; refine W_region ?_; refine xa rfl rfl ?_; refine xa rfl rfl ?_; refine xa rfl rfl ?_; refine WO_nil (sq_n (hK22 _ _ ?_)); refine W_ret (sq_r (sq_r (ret_of (v := _) rfl ?_))); refine ⟨[], ?_, rfl⟩; unfold unzl; rw [if_neg (fun h => hf h.2.2)]
          exact rfl
        · have hak : asks S = (0, false) := by unfold asks; rw [if_neg (fun h => h6 h.1)]
          refine W_region ?_; refine xm rfl rfl ?_; refine wc (e_c rfl rfl rfl call8) rfl rfl rfl (asks_spec hd0 hS (by omega) hcap) .all ?_; rintro _ Hx ⟨rfl, hHx⟩; rw [hHx, hak]; (try simp only [ap4]); refine xm rfl rfl ?_; refine xp (v_ex rfl rfl rfl) rfl ?_; refine xp (v_ex rfl rfl rfl) rfl ?_; refine xa rfl rfl ?_; refine xa rfl rfl ?_; refine WO_nil (sq_n (hK19 _ _ ?_))
          refine W.keep [0,1,2,6,7,8,9,10,11] rfl ?_; refine W_seq fun K23 hK23 => ?_; refine W_seq fun K24 hK24 => ?_; refine W_region ?_; refine xm rfl rfl ?_; refine xp (v_not rfl rfl rfl) rfl ?_; refine xm rfl rfl ?_; refine xno rfl ?_; refine xno rfl ?_; refine xp (v_pt rfl rfl rfl) rfl ?_; refine xm rfl rfl ?_; refine xno rfl ?_; refine xno rfl ?_; refine xno rfl ?_; refine xno rfl ?_
          refine xp (v_pt rfl rfl rfl) rfl ?_; refine WO_nil (sq_n (hK24 _ _ ?_)); refine W.keep [0,1,6,7,8,9,46] rfl ?_; refine W_cond_t rfl ?_; refine W_seq fun K25 hK25 => ?_; refine W_region ?_; refine xa rfl rfl ?_; refine xa rfl rfl ?_; refine xa rfl rfl ?_; refine WO_nil (sq_n (hK25 _ _ ?_)); refine W_ret (sq_r (sq_r (ret_of (v := _) rfl ?_))); refine ⟨[], ?_, rfl⟩; unfold unzl; rw [if_neg (fun h => hf h.2.2)]
          exact rfl
    · skip
      refine W_draw mixed ?_; refine WA_k (fuel := 3) [0,1,2,3,4,5,6,7,8,9] rfl (by kernel_rfl) ?_; refine ym rfl rfl rfl ?_; refine yp rfl (v_len rfl underlying22 rfl) rfl ?_; refine yp rfl (v_lt rfl rfl rfl (dF (by omega))) rfl ?_; refine ym rfl rfl rfl ?_; refine ym rfl rfl rfl ?_; refine yp rfl (v_ixs rfl underlying22 sizeOf5 rfl rfl (by omega)) rfl ?_
      refine yv rfl (v_ld rfl rfl isAgg5 (v := bV (S.getD 0 0)) hg0) rfl ?_; refine ym rfl rfl rfl ?_; refine yp rfl (v_ixs rfl underlying22 sizeOf5 rfl rfl (by omega)) rfl ?_; refine yv rfl (v_ld rfl rfl isAgg5 hg1) rfl ?_; refine WK_nil ?_; refine WA_one (k := 10) rfl (by kernel_rfl) ?_; refine wc (e_c rfl rfl rfl call13) rfl rfl rfl (isHeader_spec l0 l1) .all ?_; rintro _ Hx ⟨rfl, hHx⟩; rw [hHx, decide_eq_false h3]
      (try simp only [ap4]); refine WO_nil (sq_n ?_); refine WA_k (fuel := 0) [11,12] rfl (by kernel_rfl) ?_; refine yp rfl (v_not rfl rfl rfl) rfl ?_; refine yp rfl (v_pf rfl rfl rfl) rfl ?_; refine WK_nil ?_; refine WA_nil (by kernel_rfl) (sq_n (hK3 _ _ ?_)); refine W.keep [0,1,2,6,7,8,24] rfl ?_; refine W_cond_t rfl ?_; refine W_seq fun K26 hK26 => ?_; refine W_region ?_; refine xa rfl rfl ?_; refine xa rfl rfl ?_
      refine xa rfl rfl ?_; refine WO_nil (sq_n (hK26 _ _ ?_)); refine W_ret (sq_r (ret_of (v := _) rfl ?_)); refine ⟨[], ?_, rfl⟩; unfold unzl; rw [if_neg (fun h => h3 h.2.1)]; exact rfl
theorem reads_spec (hG : GD D eof shb uex hdr dic chk) (hd : Dat p S D) (hS : ∀ x ∈ S, x < 256) (hl : S.length < 2 ^ 34) (hcap : S.length ≤ cap) (hz : unz S [] 0) (h0 : 0 < S.length) :
    CallsL Tryz.prog 9 #[.slice p S.length cap, .slice none 0 0, .bool false, .slice none 0 0] D fun v H' => ∃ G, v = .bool true ∧ H' = G ++ D := by
  refine CallsL_of func9 rfl ntmps9 rfl ?_; try dsimp only [initE, Nat.zero_add]
  refine W_seq fun K1 hK1 => ?_; refine W_region ?_; refine xa rfl rfl ?_; refine WO_nil (sq_n (hK1 _ _ ?_)); refine W_seq fun K2 hK2 => ?_; refine W_region ?_; refine xm rfl rfl ?_; refine xm rfl rfl ?_; refine xm rfl rfl ?_; refine wc (e_c rfl rfl rfl call7) rfl rfl rfl (unpack_spec hG hd hS hl hcap) .all ?_; rintro _ _ ⟨p2, L, c2, f, rest, G, rfl, rfl, h1, h2, h3, h4, h5, h6, hor⟩
  obtain ⟨rfl, hun⟩ : f = 0 ∧ unz S L rest := hor.elim id fun h => absurd hz (h.2 _ _); obtain ⟨rfl, rfl⟩ := unz_uniq hun hz; (try simp only [ap4]); refine xm rfl rfl ?_; refine xp (v_ex rfl rfl rfl) rfl ?_; refine xp (v_ex rfl rfl rfl) rfl ?_; refine xp (v_ex rfl rfl rfl) rfl ?_; refine xa rfl rfl ?_; refine xa rfl rfl ?_; refine xa rfl rfl ?_; refine WO_nil (sq_n (hK2 _ _ ?_)); refine W.keep [0,3,8,9,10,11] rfl ?_
  refine W_seq fun K3 hK3 => ?_; refine W_region ?_; refine xm rfl rfl ?_; refine xp (v_eq rfl rfl rfl (dT (by rfl))) rfl ?_; refine xm rfl rfl ?_; refine xm rfl rfl ?_; refine xp (v_eq rfl rfl rfl (dT (by rfl))) rfl ?_; refine xp (v_pt rfl rfl rfl) rfl ?_; refine xm rfl rfl ?_; refine xm rfl rfl ?_; refine xm rfl rfl ?_
  refine wc (e_c rfl rfl rfl call10) rfl rfl rfl (same_spec (L := []) rfl rfl DatV.nil DatV.nil) .all ?_; rintro _ Hx ⟨rfl, hHx⟩; rw [hHx]; (try simp only [ap4]); refine xp (v_pt rfl rfl rfl) rfl ?_; refine xm rfl rfl ?_; refine xm rfl rfl ?_; refine xp (v_len rfl underlying22 rfl) rfl ?_; refine xp (v_gt rfl rfl rfl (dT (by omega))) rfl ?_; refine xp (v_pt rfl rfl rfl) rfl ?_; refine xa rfl rfl ?_
  refine WO_nil (sq_n (hK3 _ _ ?_)); refine W.keep [8] rfl ?_; refine W_ret (ret_of (v := _) rfl ?_); exact ⟨G, rfl, rfl⟩
theorem hd2_low : ∀ b, b < 1 → 64 * 0 ≤ b → ¬ hd2 120 b := by
  intro b hb _; obtain rfl : b = 0 := by omega
  decide
theorem zlib0_spec : CallsL Tryz.prog 5 #[.slice none 0 0, .slice none 0 0, .bool false, .int .i64 7, .int .i64 0, .slice none 0 0] D fun v H' => ∃ po co G, v = .slice po z0.length co ∧ OwnV bV 5 po co z0 G ∧ H' = G ++ D := by
  have h := zlib_spec (D := D) (p := none) (pl := none) (cap := 0) (capl := 0) (lv := 0) (tb := 1) (K := 1) (A := []) (V := []) (by decide) hd2_low (by decide) (by decide) (by decide)
    DatV.nil (by simp) (by decide) (fun h => absurd rfl h) (fun i => by simp) (by decide) (by decide) (by decide)
  rw [z0_eq] at h; exact h
end
end Go.Proofs.YtpbahgddoamhgaaGreatDoor
namespace Go.Proofs.YtpbahgddoamhgaaGreatDoor.Pu

structure Agr (B B' : List Nat) (n : Nat) : Prop where
  l1 : n ≤ B.length
  l2 : n ≤ B'.length
  eq : ∀ i, i < n → B'.getD i 0 = B.getD i 0
def Gd (n : Nat) (s : RS) : Prop := s.fail = false ∧ s.at_ ≤ 8 * n
theorem Gd.bad {n : Nat} {s : RS} (h : Gd n s.bad) {p : Prop} : p := by have := h.1; simp at this
section
variable {B B' : List Nat} {n : Nat}
theorem rbit_agr (h : Agr B B' n) {s : RS} (hg : Gd n (rbit B s).2) : rbit B' s = rbit B s ∧ Gd n s := by
  obtain ⟨h1, h2, h3, h4⟩ := rbit_ok hg.1; have h5 := hg.2; have l1 := h.l1; have l2 := h.l2; have hf : ¬ s.fail = true := by rw [h1]; decide
  refine ⟨?_, h1, by omega⟩; unfold rbit; rw [if_neg hf, if_neg hf, if_neg (by omega), if_neg (by omega)]; unfold bitAt; rw [h.eq _ (by omega)]
theorem rbits_agr (h : Agr B B' n) {s : RS} : ∀ k, Gd n (rbits B k s).2 → rbits B' k s = rbits B k s ∧ Gd n s
  | 0, hg => ⟨rfl, hg⟩
  | k + 1, hg => by
    have hg : Gd n (rbit B (rbits B k s).2).2 := hg; obtain ⟨e1, g1⟩ := rbit_agr h hg; obtain ⟨e2, g2⟩ := rbits_agr h k g1; refine ⟨?_, g2⟩; rw [rbits, rbits, e2, e1]
theorem symF_agr (h : Agr B B' n) {l : Ents} : ∀ (k long q : Nat) (s : RS), Gd n (symF B l k long q s).2 → symF B' l k long q s = symF B l k long q s ∧ Gd n s
  | 0, _, _, s, hg => by have := hg.1; simp [symF] at this
  | k + 1, long, q, s, hg => by
    have key : Gd n (rbit B s).2 := by
      simp only [symF] at hg
      split at hg
      · split at hg
        · exact ⟨(symF_ok _ _ _ _ hg.1).1, Nat.le_trans (symF_mono _ _ _ _) hg.2⟩
        · exact hg
      · exact ⟨(symF_ok _ _ _ _ hg.1).1, Nat.le_trans (symF_mono _ _ _ _) hg.2⟩
    obtain ⟨he, hgs⟩ := rbit_agr h key; refine ⟨?_, hgs⟩; simp only [symF] at hg ⊢
    rw [he]; split
    · rename_i heq
      rw [heq] at hg; dsimp only at hg; split
      · rename_i hf; exact absurd hf (by rw [key.1]; decide)
      · rfl
    · rename_i heq
      rw [heq] at hg; exact (symF_agr h k _ _ _ hg).1
theorem sym_agr (h : Agr B B' n) {l : Ents} {s : RS} (hg : Gd n (sym B l s).2) : sym B' l s = sym B l s ∧ Gd n s := symF_agr h _ _ _ _ hg
theorem rblk_gd {l d : Ents} {k : Nat} {out : List Nat} {s : RS} (hg : Gd n (rblk B l d k out s).2) : Gd n s := by
  refine ⟨?_, Nat.le_trans (rblk_mono _ _ _) hg.2⟩
  cases hf : s.fail
  · rfl
  · have := hg.1; rw [rblk_bad hf] at this; rw [hf] at this; cases this
theorem rblk_agr (h : Agr B B' n) {l d : Ents} : ∀ (k k' : Nat) (out : List Nat) (s : RS), 8 * B.length < k + s.at_ → 8 * B'.length < k' + s.at_ → Gd n (rblk B l d k out s).2 → rblk B' l d k' out s = rblk B l d k out s
  | 0, _, out, s, h1, h2, hg => by
    have g0 := (rblk_gd hg).2; have l1 := h.l1; omega
  | k + 1, 0, out, s, h1, h2, hg => by
    have g0 := (rblk_gd hg).2; have l2 := h.l2; omega
  | k + 1, k' + 1, out, s, h1, h2, hg => by
    have g0 := rblk_gd hg; have hs : ¬ s.fail = true := by rw [g0.1]; decide
    rw [rblk, if_neg hs] at hg; rw [rblk, if_neg hs, rblk, if_neg hs]; by_cases c1 : (sym B l s).2.fail = true ∨ (sym B l s).1 = 256
    · rw [if_pos c1] at hg; have e1 := (sym_agr h hg).1; rw [e1, if_pos c1, if_pos c1]
    · rw [if_neg c1] at hg; have hok := fun hf => (sym_ok (B := B) (l := l) (s := s) hf).2; by_cases c2 : (sym B l s).1 < 256
      · rw [if_pos c2] at hg; have gs := rblk_gd hg; have e1 := (sym_agr h gs).1; have := hok gs.1; rw [e1, if_neg c1, if_neg c1, if_pos c2, if_pos c2]; exact rblk_agr h k k' _ _ (by omega) (by omega) hg
      · rw [if_neg c2] at hg; by_cases c3 : 285 < (sym B l s).1
        · rw [if_pos c3] at hg; exact hg.bad
        · rw [if_neg c3] at hg; by_cases c4 : 29 < (sym B d (rbits B (lenExtra (sym B l s).1) (sym B l s).2).2).1
          · rw [if_pos c4] at hg; exact hg.bad
          · rw [if_neg c4] at hg; split at hg
            · exact hg.bad
            · rename_i c5
              have g3 := rblk_gd hg; obtain ⟨e4, g4⟩ := rbits_agr h _ g3; obtain ⟨e3, g5⟩ := sym_agr h g4; obtain ⟨e2, g6⟩ := rbits_agr h _ g5; obtain ⟨e1, g7⟩ := sym_agr h g6; have := hok g6.1; have m1 := rbits_mono B (lenExtra (sym B l s).1) (sym B l s).2; have m2 : (rbits B (lenExtra (sym B l s).1) (sym B l s).2).2.at_ ≤ (sym B d (rbits B (lenExtra (sym B l s).1) (sym B l s).2).2).2.at_ := symF_mono _ _ _ _
              have m3 := rbits_mono B (distExtra (sym B d (rbits B (lenExtra (sym B l s).1) (sym B l s).2).2).1) (sym B d (rbits B (lenExtra (sym B l s).1) (sym B l s).2).2).2; rw [e1, e2, e3, e4, if_neg c1, if_neg c1, if_neg c2, if_neg c2, if_neg c3, if_neg c3, if_neg c4, if_neg c4, if_neg c5, if_neg c5]; exact rblk_agr h k k' _ _ (by omega) (by omega) hg
theorem rblock_agr (h : Agr B B' n) {L1 L2 out : List Nat} {s : RS} (hg : Gd n (rblock B L1 L2 out s).2) : rblock B' L1 L2 out s = rblock B L1 L2 out s ∧ Gd n s := by
  unfold rblock at hg ⊢; have g0 := rblk_gd hg; split at g0
  · rename_i c
    rw [if_pos c] at hg ⊢; exact ⟨rblk_agr h _ _ _ _ (by omega) (by omega) hg, g0⟩
  · exact g0.bad
theorem rclen_agr (h : Agr B B' n) {s : RS} : ∀ i, Gd n (rclen B s i).2 → rclen B' s i = rclen B s i ∧ Gd n s
  | 0, hg => ⟨rfl, hg⟩
  | i + 1, hg => by
    have hg : Gd n (rbits B 3 (rclen B s i).2).2 := hg; obtain ⟨e1, g1⟩ := rbits_agr h 3 hg; obtain ⟨e2, g2⟩ := rclen_agr h i g1; refine ⟨?_, g2⟩; rw [rclen, rclen, e2, e1]
theorem rall_gd {c : Ents} {N k : Nat} {all : List Nat} {s : RS} (hg : Gd n (rall B c N k all s).2) : Gd n s := by
  refine ⟨?_, Nat.le_trans (rall_mono _ _ _) hg.2⟩
  cases hf : s.fail
  · rfl
  · have := hg.1; rw [rall_end (.inl hf)] at this; rw [hf] at this; cases this
theorem rall_agr (h : Agr B B' n) {c : Ents} {N : Nat} : ∀ (k : Nat) (all : List Nat) (s : RS), Gd n (rall B c N k all s).2 → rall B' c N k all s = rall B c N k all s
  | 0, _, _, _ => rfl
  | k + 1, all, s, hg => by
    rw [rall] at hg; rw [rall, rall]; by_cases c1 : s.fail = true ∨ N ≤ all.length
    · rw [if_pos c1, if_pos c1]
    · rw [if_neg c1] at hg; rw [if_neg c1, if_neg c1]; by_cases c2 : (sym B c s).1 < 16
      · rw [if_pos c2] at hg; have e1 := (sym_agr h (rall_gd hg)).1; rw [e1, if_pos c2, if_pos c2]; exact rall_agr h k _ _ hg
      · rw [if_neg c2] at hg; by_cases c3 : (sym B c s).1 = 16 ∧ all.length = 0
        · rw [if_pos c3] at hg; exact (rall_gd hg).bad
        · rw [if_neg c3] at hg; by_cases c4 : (sym B c s).1 = 16
          · rw [if_pos c4] at hg; obtain ⟨e2, g2⟩ := rbits_agr h _ (rall_gd hg); obtain ⟨e1, g1⟩ := sym_agr h g2; rw [e1, e2, if_neg c2, if_neg c2, if_neg c3, if_neg c3, if_pos c4, if_pos c4]; exact rall_agr h k _ _ hg
          · rw [if_neg c4] at hg; by_cases c5 : (sym B c s).1 = 17
            · rw [if_pos c5] at hg; obtain ⟨e2, g2⟩ := rbits_agr h _ (rall_gd hg); obtain ⟨e1, g1⟩ := sym_agr h g2; rw [e1, e2, if_neg c2, if_neg c2, if_neg c3, if_neg c3, if_neg c4, if_neg c4, if_pos c5, if_pos c5]; exact rall_agr h k _ _ hg
            · rw [if_neg c5] at hg; obtain ⟨e2, g2⟩ := rbits_agr h _ (rall_gd hg); obtain ⟨e1, g1⟩ := sym_agr h g2; rw [e1, e2, if_neg c2, if_neg c2, if_neg c3, if_neg c3, if_neg c4, if_neg c4, if_neg c5, if_neg c5]; exact rall_agr h k _ _ hg
theorem rdyn4_gd {nl nd : Nat} {r : List Nat × RS} (hg : Gd n (rdyn4 nl nd r).s) : Gd n r.2 := by
  unfold rdyn4 at hg; split at hg
  · exact hg.bad
  · exact hg
theorem rdyn_agr (h : Agr B B' n) {s : RS} (hg : Gd n (rdyn B s).s) : rdyn B' s = rdyn B s ∧ Gd n s := by
  have key : Gd n (rbits B 4 (rbits B 5 (rbits B 5 s).2).2).2 ∧ ∀ nl nd nc s, Gd n (rdyn2 B nl nd nc s).s → rdyn2 B' nl nd nc s = rdyn2 B nl nd nc s ∧ Gd n s := by
    have k2 : ∀ nl nd nc s, Gd n (rdyn2 B nl nd nc s).s → rdyn2 B' nl nd nc s = rdyn2 B nl nd nc s ∧ Gd n s := fun nl nd nc s hg => by
      unfold rdyn2 at hg ⊢; split at hg
      · exact hg.bad
      · rename_i c1
        rw [if_neg c1, if_neg c1]; have hg2 := rdyn4_gd hg; have g3 := rall_gd hg2; split at g3
        · rename_i c3
          rw [if_pos c3] at hg2; obtain ⟨e1, g4⟩ := rclen_agr h nc g3; refine ⟨?_, g4⟩; unfold rdyn3; rw [e1, if_pos c3, rall_agr h _ _ _ hg2]
        · exact g3.bad
    exact ⟨(k2 _ _ _ _ hg).2, k2⟩
  obtain ⟨g1, k2⟩ := key; obtain ⟨e3, g2⟩ := rbits_agr h _ g1; obtain ⟨e2, g3⟩ := rbits_agr h _ g2; obtain ⟨e1, g4⟩ := rbits_agr h _ g3; refine ⟨?_, g4⟩; unfold rdyn at hg ⊢; rw [e1, e2, e3]; exact (k2 _ _ _ _ hg).1
theorem rstored_agr (h : Agr B B' n) {out : List Nat} {s : RS} (hg : Gd n (rstored B out s).2) : rstored B' out s = rstored B out s ∧ Gd n s := by
  unfold rstored at hg ⊢; split at hg
  · exact hg.bad
  · rename_i c1
    have hf : ¬ (rbits B 16 (rbits B 16 (ralign s)).2).2.fail = true := fun e => c1 (.inl e); have g0 := hg.2; dsimp only at g0; have g1 : Gd n (rbits B 16 (rbits B 16 (ralign s)).2).2 := ⟨by simpa using hf, by omega⟩; obtain ⟨e2, g2⟩ := rbits_agr h _ g1; obtain ⟨e1, g3⟩ := rbits_agr h _ g2; have ha : (ralign s).at_ = (s.at_ + 7) / 8 * 8 := rfl; have l2 := h.l2; have l1 := h.l1; have h8 := rbits_ok g1.1
    have h9 := rbits_ok g2.1; refine ⟨?_, g3.1, by have := g3.2; omega⟩; rw [e1, e2, if_neg c1, if_neg (fun hc => hc.elim (fun e => c1 (.inl e)) fun hc => hc.elim (fun e => c1 (.inr (.inl e))) fun e => by omega)]; congr 2
    apply List.ext_getElem
    · simp only [List.length_drop, List.length_take]; omega
    · intro i h1 h2; simp only [List.length_drop, List.length_take] at h1 h2
      simp only [List.getElem_drop, List.getElem_take]
      have := h.eq ((rbits B 16 (rbits B 16 (ralign s)).2).2.at_ / 8 + i) (by omega); rw [List.getD_eq_getElem?_getD, List.getElem?_eq_getElem (by omega), List.getD_eq_getElem?_getD, List.getElem?_eq_getElem (by omega)] at this; exact this
theorem rone_agr (h : Agr B B' n) {kind : Nat} {out : List Nat} {s : RS} (hg : Gd n (rone B kind out s).2) : rone B' kind out s = rone B kind out s ∧ Gd n s := by
  unfold rone at hg ⊢; split at hg
  · rename_i c; rw [if_pos c, if_pos c]; exact rstored_agr h hg
  · rename_i c
    rw [if_neg c, if_neg c]; split at hg
    · rename_i c2; rw [if_pos c2, if_pos c2]; exact rblock_agr h hg
    · rename_i c2
      rw [if_neg c2, if_neg c2]; split at hg
      · rename_i c3
        rw [if_pos c3, if_pos c3]; split at hg
        · rename_i c4; exact absurd c4 (by rw [hg.1]; decide)
        · rename_i c4
          obtain ⟨e1, g1⟩ := rblock_agr h hg; obtain ⟨e2, g2⟩ := rdyn_agr h g1; rw [e2, if_neg c4, if_neg c4]; exact ⟨e1, g2⟩
      · exact hg.bad
theorem rinf_gd {k : Nat} {out : List Nat} {last : Nat} {s : RS} (hB : s.at_ ≤ 8 * B.length) (ho : out.length ≤ 258 * s.at_) (hg : Gd n (rinf B k out last s).2) : Gd n s := by
  refine ⟨?_, ?_⟩
  · cases hf : s.fail
    · rfl
    · have := hg.1; rw [rinf_end (.inr hf)] at this; rw [hf] at this; cases this
  · refine Nat.le_trans ?_ hg.2; clear hg; induction k generalizing out last s with
    | zero => exact Nat.le_refl _
    | succ k ih =>
      rw [rinf]; split
      · exact Nat.le_refl _
      · have a1 := rbit_le hB; have a2 := rbits_le 2 a1; have a3 := rbit_mono B s; have a4 := rbits_mono B 2 (rbit B s).2; obtain ⟨f1, f2, f3⟩ := rone_facts (B := B) (out := out) (rbits B 2 (rbit B s).2).1 a2 (by omega); exact Nat.le_trans (Nat.le_trans a3 (Nat.le_trans a4 f2)) (ih f1 f3)
theorem rinf_agr (h : Agr B B' n) : ∀ (k k' : Nat) (out : List Nat) (last : Nat) (s : RS), s.at_ ≤ 8 * B.length → out.length ≤ 258 * s.at_ → 8 * B.length + 1 < k + s.at_ → 8 * B'.length + 1 < k' + s.at_ → Gd n (rinf B k out last s).2 → rinf B' k' out last s = rinf B k out last s
  | 0, _, out, last, s, hs, ho, h1, h2, hg => by omega
  | k + 1, 0, out, last, s, hs, ho, h1, h2, hg => by
    have := (rinf_gd hs ho hg).2; have l2 := h.l2; omega
  | k + 1, k' + 1, out, last, s, hs, ho, h1, h2, hg => by
    rw [rinf] at hg; rw [rinf, rinf]; by_cases c1 : last ≠ 0 ∨ s.fail = true
    · rw [if_pos c1, if_pos c1]
    · rw [if_neg c1] at hg; rw [if_neg c1, if_neg c1]; have a1 := rbit_le hs; have a2 := rbits_le 2 a1; have a3 := rbit_mono B s; have a4 := rbits_mono B 2 (rbit B s).2; obtain ⟨f1, f2, f3⟩ := rone_facts (B := B) (out := out) (rbits B 2 (rbit B s).2).1 a2 (by omega); have g1 := rinf_gd f1 f3 hg; obtain ⟨e3, g2⟩ := rone_agr h g1; obtain ⟨e2, g3⟩ := rbits_agr h _ g2; obtain ⟨e1, g4⟩ := rbit_agr h g3
      have hb := (rbits_ok g2.1).2; have hb1 := (rbit_ok g3.1).2.1; rw [e1, e2, e3]; exact rinf_agr h k k' _ _ _ f1 f3 (by omega) (by omega) hg
theorem rres_agr (h : Agr B B' n) (hf : (rinf B (8 * B.length + 2) [] 0 ⟨0, false⟩).2.fail = false) (hn : (rinf B (8 * B.length + 2) [] 0 ⟨0, false⟩).2.at_ ≤ 8 * n) :
    rinf B' (8 * B'.length + 2) [] 0 ⟨0, false⟩ = rinf B (8 * B.length + 2) [] 0 ⟨0, false⟩ :=
  rinf_agr h _ _ _ _ _ (Nat.zero_le _) (Nat.zero_le _) (by dsimp only; omega) (by dsimp only; omega) ⟨hf, hn⟩
end
end Go.Proofs.YtpbahgddoamhgaaGreatDoor.Pu
namespace Go.Proofs.YtpbahgddoamhgaaGreatDoor
open Go Sx Pu
set_option maxRecDepth 10000

namespace Pu
theorem rinflate_of {B : List Nat} (h : (rres B).2.fail = false) : rinflate B = some ((rres B).1, used (rres B)) := by
  have he : rinflate B = if (rres B).2.fail = true then none else some ((rres B).1, used (rres B)) := rfl; rw [he, if_neg (by rw [h]; decide)]
theorem hdrOk_hd2 {S : List Nat} : hdrOk S ↔ 2 ≤ S.length ∧ hd2 (S.getD 0 0) (S.getD 1 0) := Iff.rfl
theorem unz_unzl {S L : List Nat} {r : Nat} (ha : ¬ ((asks S).2 = true ∧ (asks S).1 = 1)) (h : unz S L r) : ∃ u, unzl S = some (L, u) ∧ r = S.length - u ∧ u ≤ S.length := by
  obtain ⟨o, ho, hf, hL, hu, hn, hr⟩ := h
  cases ho with
  | two h1 h2 =>
    have h3 := hdrOk_hd2.1 h1; rw [List.length_drop] at hu; refine ⟨2 + used (rres (S.drop 2)) + 4, ?_, hr, by omega⟩; unfold unzl; rw [if_pos ⟨h3.1, h3.2, h2⟩, rinflate_of hf, hL]; dsimp only; rw [num4_drop] at hn; rw [if_pos ⟨by omega, hn⟩]
  | six h1 h2 h3 h4 =>
    refine absurd ?_ ha; unfold asks; rw [if_pos ⟨h3, h2⟩]; exact ⟨rfl, h4⟩
theorem unzl_unz {S L : List Nat} {u : Nat} (h : unzl S = some (L, u)) : unz S L (S.length - u) ∧ u ≤ S.length := by
  unfold unzl at h; split at h
  · rename_i h1
    split at h
    · cases h
    · rename_i o v hri
      split at h
      · rename_i h2
        injection h with h
        injection h with e1 e2
        subst e1 e2; obtain ⟨r1, r2, r3, r4, r5⟩ := rinflate_some hri; subst r3; refine ⟨⟨2, .two (hdrOk_hd2.2 ⟨h1.1, h1.2.1⟩) h1.2.2, r1, r2, by rw [List.length_drop]; omega, ?_, rfl⟩, h2.1⟩; rw [num4_drop]; exact h2.2
      · cases h
  · cases h
theorem getD_app1 {T U : List Nat} {i : Nat} (h : i < T.length) : (T ++ U).getD i 0 = T.getD i 0 := by
  rw [List.getD_eq_getElem?_getD, List.getElem?_append_left h, ← List.getD_eq_getElem?_getD]
theorem getD_app2 {T U : List Nat} (i : Nat) : (T ++ U).getD (T.length + i) 0 = U.getD i 0 := by
  rw [List.getD_eq_getElem?_getD, List.getElem?_append_right (Nat.le_add_right _ _), Nat.add_sub_cancel_left, ← List.getD_eq_getElem?_getD]
theorem num4_be4 {T : List Nat} {n : Nat} (hn : n < 4294967296) : num4 (T ++ be4 n) T.length = n := by
  have e0 : (T ++ be4 n).getD T.length 0 = (be4 n).getD 0 0 := getD_app2 0; have e1 : (T ++ be4 n).getD (T.length + 1) 0 = (be4 n).getD 1 0 := getD_app2 1; have e2 : (T ++ be4 n).getD (T.length + 2) 0 = (be4 n).getD 2 0 := getD_app2 2; have e3 : (T ++ be4 n).getD (T.length + 3) 0 = (be4 n).getD 3 0 := getD_app2 3; unfold num4; rw [e0, e1, e2, e3]
  show n / 16777216 % 256 * 16777216 + n / 65536 % 256 * 65536 + n / 256 % 256 * 256 + n % 256 = n
  omega
def rawS (X : List Nat) (u n : Nat) : List Nat := [120, 156] ++ X.take u ++ be4 n
theorem head_ok (T : List Nat) : hdrOk ([120, 156] ++ T) ∧ ([120, 156] ++ T).getD 1 0 / 32 % 2 = 0 := by
  refine ⟨⟨by simp, ?_, ?_, ?_⟩, ?_⟩
  · show 120 % 16 = 8; rfl
  · show 120 / 16 ≤ 7; decide
  · show (120 * 256 + 156) % 31 = 0; rfl
  · show 156 / 32 % 2 = 0; rfl
theorem raw_none {X : List Nat} (h : rinflate X = none) (L : List Nat) (r : Nat) : ¬ unz ([120, 156] ++ X) L r := by
  rintro ⟨o, ho, hf, _⟩; obtain ⟨h1, h2⟩ := head_ok X; obtain rfl := HOff.uniq ho (.two h1 h2); have hd : ([120, 156] ++ X).drop 2 = X := rfl; rw [hd] at hf; rw [rinflate_none h] at hf; cases hf
theorem raw_some {X o : List Nat} {u : Nat} (h : rinflate X = some (o, u)) : unz (rawS X u (adler o)) o 0 := by
  obtain ⟨r1, r2, r3, r4, r5⟩ := rinflate_some h; obtain ⟨h1, h2⟩ := head_ok (X.take u ++ be4 (adler o)); have hS : rawS X u (adler o) = [120, 156] ++ (X.take u ++ be4 (adler o)) := by unfold rawS; rw [List.append_assoc]
  have hd : ([120, 156] ++ (X.take u ++ be4 (adler o))).drop 2 = X.take u ++ be4 (adler o) := rfl; have hl : (X.take u).length = u := by rw [List.length_take]; omega
  have hb4 : (be4 (adler o)).length = 4 := rfl
  have hat : (rres X).2.at_ ≤ 8 * u := by
    have hu : used (rres X) = ((rres X).2.at_ + 7) / 8 * 8 / 8 := rfl; rw [r3, hu]; omega
  have hag : Agr X (X.take u ++ be4 (adler o)) u := ⟨r4, by rw [List.length_append]; omega, fun i hi => by
    rw [getD_app1 (by omega), List.getD_eq_getElem?_getD, List.getElem?_take_of_lt hi, ← List.getD_eq_getElem?_getD]⟩
  have he : rres (X.take u ++ be4 (adler o)) = rres X := rres_agr hag r1 hat; rw [hS]; refine ⟨2, .two h1 h2, ?_, ?_, ?_, ?_, ?_⟩
  · rw [hd, he]; exact r1
  · rw [hd, he]; exact r2
  · rw [hd, he, ← r3, List.length_append]; omega
  · rw [hd, he, ← r3]; have := num4_be4 (T := X.take u) (adler_lt o); rwa [hl] at this
  · rw [hd, he, ← r3]; simp only [List.length_append, List.length_cons, List.length_nil, hl, hb4]; omega
end Pu
theorem datV_cells {f : Nat → Value} {b : Nat} {L : List Nat} {rest : List Value} {ty : TypeId} {fz : Nat × Nat} {D : Hl} : DatV f (some ⟨b, 0, none⟩) L ((b, .cells (List.toArray (L.map f ++ rest)) ty fz) :: D) := fun _ =>
  ⟨b, 0, _, ty, fz, _, rfl, AtH.here, fun i hi => by rw [Nat.zero_add, List.getElem?_append_left (by rw [List.length_map]; exact hi), List.getElem?_map, List.getElem?_eq_getElem hi]; rfl⟩
end Go.Proofs.YtpbahgddoamhgaaGreatDoor
namespace Go.Proofs.YtpbahgddoamhgaaGreatDoor
open Go.Proofs.Tryz
open Go Sx Pu
set_option maxRecDepth 10000

theorem take_head (X : List Nat) (u : Nat) : ([120, 156] ++ X).take (2 + u) = [120, 156] ++ X.take u := by rw [Nat.add_comm]; rfl
section
variable {D : Hl} {p : Option Addr} {cap m : Nat} {S X : List Nat} {eof shb uex hdr dic chk : Addr}
theorem unpack_m (hm : S.length = m) (hG : GD D eof shb uex hdr dic chk) (hd : Dat p S D) (hS : ∀ x ∈ S, x < 256) (hl : S.length < 2 ^ 34) (hcap : m ≤ cap) :
    CallsL Tryz.prog 7 #[.slice p m cap, .slice none 0 0, .bool false, .slice none 0 0] D fun v H' =>
      ∃ p2 L c2 f rest G, v = .tuple #[.slice p2 L.length c2, iV f, iV rest] ∧ H' = G ++ D ∧ rest ≤ S.length ∧ f < 5 ∧ L.length ≤ c2 ∧ L.length < 2 ^ 46 ∧ (∀ c ∈ L, c < 256) ∧ DatV bV p2 L G ∧ ((f = 0 ∧ unz S L rest) ∨ (f ≠ 0 ∧ ∀ L rest, ¬ unz S L rest)) := by
  subst hm; exact unpack_spec hG hd hS hl hcap
set_option maxHeartbeats 1000000 in
theorem fnRaw_spec (hG : GD D eof shb uex hdr dic chk) (hd : Dat p X D) (hX : ∀ x ∈ X, x < 256) (hcap : X.length ≤ cap) :
    CallsL Tryz.prog 4 #[.slice p X.length cap] D fun v H' => v = .bool true ∧ ∃ Y, HSub H' D Y := by
  have hSl : ([120, 156] ++ X).length = X.length + 2 := by simp
  have hSb : ∀ x ∈ [120, 156] ++ X, x < 256 := fun x hx => (List.mem_append.1 hx).elim (fun h => by simp only [List.mem_cons, List.not_mem_nil, or_false] at h; omega) (hX x); refine CallsL_of func4 rfl ntmps4 rfl ?_; try dsimp only [initE, Nat.zero_add]
  refine W_seq fun K1 hK1 => ?_; refine W_region ?_; refine xa rfl rfl ?_; refine WO_nil (sq_n (hK1 _ _ ?_)); refine W_seq fun K2 hK2 => ?_; refine W_seq fun K3 hK3 => ?_; refine W_region ?_; refine xm rfl rfl ?_; refine xp (v_len rfl underlying22 rfl) rfl ?_; refine xp (n_gt rfl rfl rfl) rfl ?_; refine WO_nil (sq_n (hK3 _ _ ?_)); refine W_cond rfl (fun hc0 => ?_) (fun hc0 => ?_)
  · replace hc0 := of_decide_eq_true hc0; refine W_seq fun K4 hK4 => ?_; refine W_region ?_; refine xa rfl rfl ?_; refine WO_nil (sq_n (hK4 _ _ ?_)); refine W.keep [0,2] rfl ?_; refine W_ret (sq_r (ret_of (v := _) rfl ?_)); exact ⟨rfl, [], .all⟩
  · replace hc0 := of_decide_eq_false hc0; refine W_skip (sq_n (hK2 _ _ ?_)); refine W.keep [0,2] rfl ?_; refine W_seq fun K5 hK5 => ?_; refine W_region ?_; refine ws (v_bs (List.toArray [bV 120, bV 156]) 5 2 rfl rfl (by intro w; kernel_rfl)) rfl rfl rfl ?_; rintro _ _ ⟨bo, rfl, rfl, _⟩; refine xm rfl rfl ?_
    refine wapp (bytes := 1) rfl underlying22 underlying22 sizeOf5 typeInfo5 rfl zeroValue5 rfl rfl rfl (OwnV.row (f := bV) (b := bo) (L := [120, 156])) rfl (hd.cons _) rfl (fun _ => rfl) (by simp only [List.length_cons, List.length_nil]; omega) (by simp only [List.length_cons, List.length_nil]; omega) rfl rfl rfl ?_; intro p1 c1 H1 hO1; have hdS := hO1.dat; have hcS := hO1.capl; refine xa rfl rfl ?_
    refine WO_nil (sq_n (hK5 _ _ ?_)); refine W.keep [0,2,3] rfl ?_; refine W_seq fun K6 hK6 => ?_; rcases hri : rinflate X with _ | ⟨o, u⟩
    · skip
      refine W_region ?_; refine xm rfl rfl ?_; refine wc (e_c rfl rfl rfl call11) rfl rfl rfl (inflate_m (S := X) rfl hcap hd hX (by omega)) (.app .all) ?_; rintro v _ ⟨G, hv, rfl⟩; rw [hri] at hv; change v = .tuple #[.slice none 0 0, .int .i64 0, .bool false] at hv
      subst hv; (try simp only [ap4]); refine xm rfl rfl ?_; refine xp (v_ex rfl rfl rfl) rfl ?_; refine xp (v_ex rfl rfl rfl) rfl ?_; refine xp (v_ex rfl rfl rfl) rfl ?_; refine xa rfl rfl ?_; refine xa rfl rfl ?_; refine xa rfl rfl ?_; refine WO_nil (sq_n (hK6 _ _ ?_)); refine W.keep [2,3,4,5,6] rfl ?_; refine W_seq fun K7 hK7 => ?_; refine W_seq fun K8 hK8 => ?_; refine W_region ?_; refine xm rfl rfl ?_
      refine WO_nil (sq_n (hK8 _ _ ?_)); refine W_cond_f rfl ?_; refine W_skip (sq_n (hK7 _ _ ?_)); refine W_seq fun K9 hK9 => ?_; refine W_region ?_; refine xm rfl rfl ?_; refine wc (e_c rfl rfl rfl call7) rfl rfl rfl (unpack_spec ((hG.app G).app H1) (hdS.appl (G ++ D)) hSb (Nat.lt_of_le_of_lt (Nat.le_of_eq hSl) (by omega)) hcS) .all ?_; rintro _ _ ⟨p2, L, c2, f, rest, G2, rfl, rfl, h1, h2, h3, h4, h5, h6, hor⟩
      obtain ⟨hf0, hno⟩ : f ≠ 0 ∧ ∀ L r, ¬ unz ([120, 156] ++ X) L r := hor.elim (fun h => absurd h.2 (raw_none hri _ _)) id; (try simp only [ap4]); refine xm rfl rfl ?_; refine xp (v_ex rfl rfl rfl) rfl ?_; refine xp (v_ex rfl rfl rfl) rfl ?_; refine xp (v_ex rfl rfl rfl) rfl ?_; refine xa rfl rfl ?_; refine xa rfl rfl ?_; refine xa rfl rfl ?_; refine WO_nil (sq_n (hK9 _ _ ?_)); refine W.keep [2,4,6,8,9] rfl ?_
      refine W_seq fun K10 hK10 => ?_; refine W_seq fun K11 hK11 => ?_; refine W_region ?_; refine xm rfl rfl ?_; refine xp (v_not rfl rfl rfl) rfl ?_; refine WO_nil (sq_n (hK11 _ _ ?_)); refine W_cond_t rfl ?_; refine W_seq fun K12 hK12 => ?_; refine W_region ?_; refine xm rfl rfl ?_; refine xp (v_ne rfl rfl rfl (dT (by omega))) rfl ?_; refine xm rfl rfl ?_
      refine wc (e_c rfl rfl rfl call5) rfl rfl rfl (zlib0_spec (D := D)) (.app (.app (.app .all))) ?_; rintro _ _ ⟨pz, cz, Gz, rfl, hOz, rfl⟩; (try simp only [ap4]); refine wc (e_c rfl rfl rfl call9) rfl rfl rfl (reads_spec (hG.app Gz) (hOz.dat.appl D) (by decide) (by decide) hOz.capl z0_unz (by decide)) (.app (.app (.app .all))) ?_; rintro _ _ ⟨G3, rfl, rfl⟩; (try simp only [ap4])
      refine xp (v_pt rfl rfl rfl) rfl ?_; refine xa rfl rfl ?_; refine WO_nil (sq_n (hK12 _ _ ?_)); refine W.keep [4,8,9,2] rfl ?_; refine W_ret (sq_r (ret_of (v := _) rfl ?_)); exact ⟨rfl, _, .app (.app (.app (.app (.app .all))))⟩
    · obtain ⟨hr1, hr2, hr3, hr4, hr5⟩ := rinflate_some hri; have hom : ∀ c ∈ o, c < 256 := hr2 ▸ rinf_mem hX _ _ _ _ (by simp); have hal := adler_lt o; refine W_region ?_; refine xm rfl rfl ?_; refine wc (e_c rfl rfl rfl call11) rfl rfl rfl (inflate_m (S := X) rfl hcap hd hX (by omega)) (.app .all) ?_; rintro v _ ⟨G, hv, rfl⟩; rw [hri] at hv; obtain ⟨p5, c5, hv, hdt⟩ := hv; subst hv; (try simp only [ap4])
      refine xm rfl rfl ?_; refine xp (v_ex rfl rfl rfl) rfl ?_; refine xp (v_ex rfl rfl rfl) rfl ?_; refine xp (v_ex rfl rfl rfl) rfl ?_; refine xa rfl rfl ?_; refine xa rfl rfl ?_; refine xa rfl rfl ?_; refine WO_nil (sq_n (hK6 _ _ ?_)); refine W.keep [2,3,4,5,6] rfl ?_; refine W_seq fun K13 hK13 => ?_; refine W_seq fun K14 hK14 => ?_; refine W_region ?_; refine xm rfl rfl ?_; refine WO_nil (sq_n (hK14 _ _ ?_))
      refine W_cond_t rfl ?_; refine W_seq fun K15 hK15 => ?_; refine W_region ?_; refine xm rfl rfl ?_; refine wc (e_c rfl rfl rfl call12) rfl rfl rfl (adler_spec ((hdt.appl D).app H1) hom (by omega)) .all ?_; rintro _ Hx ⟨rfl, hHx⟩; rw [hHx]; (try simp only [ap4]); refine xa rfl rfl ?_; refine WO_nil (sq_n (hK15 _ _ ?_)); refine W.keep [2,3,4,5,6,7] rfl ?_; obtain ⟨bb, rest, rfl, hcl, hrl, rfl⟩ := hO1.elem (by simp)
      dsimp only [List.cons_append, List.nil_append]; refine W_region ?_; refine xm rfl rfl ?_; refine xm rfl rfl ?_; refine xp (n_add rfl rfl rfl kI (by omega)) rfl ?_; refine xm rfl rfl ?_; refine xp (n_add rfl rfl rfl kI (by omega)) rfl ?_; refine xp (v_slp rfl underlying22 sizeOf5 rfl (.some rfl) (.some rfl) .none (by omega) (by omega) (by omega) (by decide)) rfl ?_; refine xm rfl rfl ?_
      refine xp (n_shr rfl rfl rfl (by decide)) rfl ?_; refine xp (n_cvm rfl underlying29 underlying5 rfl uB) rfl ?_; refine xm rfl rfl ?_; refine xp (n_shr rfl rfl rfl (by decide)) rfl ?_; refine xp (n_cvm rfl underlying29 underlying5 rfl uB) rfl ?_; refine xm rfl rfl ?_; refine xp (n_shr rfl rfl rfl (by decide)) rfl ?_; refine xp (n_cvm rfl underlying29 underlying5 rfl uB) rfl ?_; refine xm rfl rfl ?_
      refine xp (n_cvm rfl underlying29 underlying5 rfl uB) rfl ?_; refine ws (v_bs (List.toArray [bV (adler o / 2 ^ 24 % 256), bV (adler o / 2 ^ 16 % 256), bV (adler o / 2 ^ 8 % 256), bV (adler o % 256)]) 5 4 rfl rfl (by intro w; kernel_rfl)) rfl rfl rfl ?_; rintro _ _ ⟨b4, rfl, rfl, _⟩; rw [pmv_zero]
      refine ws (v_appf (bytes := 1) (m := 2 + u) (k := 4) (xs := ([120, 156] ++ X.take u).map bV) (ys := (be4 (adler o)).map bV) rfl underlying22 underlying22 sizeOf5 typeInfo5 rfl zeroValue5 rfl rfl rfl (take_head X u ▸ rdV_take (datV_cells.cons _) (by omega)) (rdV_take (T := be4 (adler o)) (k := 4) datV_row (Nat.le_refl _)) (by omega) (by omega)) rfl rfl rfl ?_; rintro v5 H5 h5
      obtain ⟨b5, rest5, c6, rfl, hc6, rfl⟩ := h5.resolve_left (fun h => absurd h.1 (by decide)); rw [← List.map_append]; refine xa rfl rfl ?_; refine WO_nil (sq_n (hK13 _ _ ?_)); refine W.keep [2,4,6,3] rfl ?_; refine W_seq fun K16 hK16 => ?_
      have hrw : (rawS X u (adler o)).length = 2 + u + 4 := by
        unfold rawS; simp only [List.length_append, List.length_cons, List.length_nil, List.length_take]
        show 0 + 1 + 1 + min u X.length + 4 = _
        omega
      have hrb : ∀ x ∈ rawS X u (adler o), x < 256 := fun x hx => (List.mem_append.1 hx).elim (fun h => (List.mem_append.1 h).elim (fun h => hSb x (List.mem_append_left _ h)) fun h => hX x (List.mem_of_mem_take h)) (be4_lt _ x); have hrs := raw_some hri; refine W_region ?_; refine xm rfl rfl ?_
      refine wc (e_c rfl rfl rfl call7) rfl rfl rfl (unpack_m (S := rawS X u (adler o)) hrw ((((hG.app G).cons _).cons _).cons _) datV_cells hrb (by omega) hc6) .all ?_; rintro _ _ ⟨p2, L, c2, f, rest, G2, rfl, rfl, h1, h2, h3, h4, h5, h6, hor⟩; obtain ⟨rfl, hun⟩ : f = 0 ∧ unz (rawS X u (adler o)) L rest := hor.elim id fun h => absurd hrs (h.2 _ _); obtain ⟨e1, e2⟩ := unz_uniq hrs hun; subst e1 e2
      (try simp only [ap4]); refine xm rfl rfl ?_; refine xp (v_ex rfl rfl rfl) rfl ?_; refine xp (v_ex rfl rfl rfl) rfl ?_; refine xp (v_ex rfl rfl rfl) rfl ?_; refine xa rfl rfl ?_; refine xa rfl rfl ?_; refine xa rfl rfl ?_; refine WO_nil (sq_n (hK16 _ _ ?_)); refine W.keep [2,4,6,8,9] rfl ?_; refine W_seq fun K17 hK17 => ?_; refine W_seq fun K18 hK18 => ?_; refine W_region ?_; refine xm rfl rfl ?_
      refine xp (v_not rfl rfl rfl) rfl ?_; refine WO_nil (sq_n (hK18 _ _ ?_)); refine W_cond_f rfl ?_; refine W_skip (sq_n (hK17 _ _ ?_)); refine W.keep [2,4,8,9] rfl ?_; refine W_seq fun K19 hK19 => ?_; refine W_region ?_; refine xm rfl rfl ?_; refine xp (v_eq rfl rfl rfl (dT (by rfl))) rfl ?_; refine xm rfl rfl ?_; refine xm rfl rfl ?_; refine xm rfl rfl ?_
      refine wc (e_c rfl rfl rfl call10) rfl rfl rfl (same_spec (L := o) rfl rfl (h6.appl _) (((((hdt.appl D).cons _).cons _).cons _).app G2)) .all ?_; rintro _ Hx ⟨rfl, hHx⟩; rw [hHx]; (try simp only [ap4]); refine xp (v_pt rfl rfl rfl) rfl ?_; refine xa rfl rfl ?_; refine WO_nil (sq_n (hK19 _ _ ?_)); refine W.keep [2] rfl ?_; refine W_ret (ret_of (v := _) rfl ?_)
      exact ⟨rfl, _, .app (.skip (.skip (.skip (.app .all))))⟩
end
end Go.Proofs.YtpbahgddoamhgaaGreatDoor
namespace Go.Proofs.YtpbahgddoamhgaaGreatDoor
open Go.Proofs.Tryz
open Go Sx Pu
set_option maxRecDepth 10000

namespace Pu
theorem zs_ok {tb K : Nat} {A : List Nat} {V : List Int} (hA : ∀ c ∈ A, c < 256) (htb : tb < 256) (hl : A.length ≤ 2 ^ 21) (hK : K ≤ 2 ^ 20) : (∀ c ∈ zs tb A V K, c < 256) ∧ 6 ≤ (zs tb A V K).length ∧ (zs tb A V K).length < 2 ^ 34 := by
  obtain ⟨h1, h2⟩ := dloop_ok hA K V 0 0 ([], 0) (Nat.zero_le _) ⟨Nat.le_refl _, by decide, by simp⟩; dsimp only at h2; have hb4 : (be4 (adler A)).length = 4 := rfl; unfold zs; refine ⟨fun c hc => ?_, ?_, ?_⟩
  · rcases List.mem_append.1 hc with h | h
    · rcases List.mem_append.1 h with h | h
      · simp only [List.mem_cons, List.not_mem_nil, or_false] at h; omega
      · exact h1 c h
    · exact be4_lt _ c h
  · simp only [List.length_append, List.length_cons, List.length_nil, hb4]; omega
  · simp only [List.length_append, List.length_cons, List.length_nil, hb4]; omega
theorem hd2_low1 : ∀ b, b < 94 → 64 * 1 ≤ b → ¬ hd2 120 b := by
  intro b hb h2; have : ∀ i, i < 30 → ¬ hd2 120 (64 + i) := by decide
  have := this (b - 64) (by omega); rwa [show 64 + (b - 64) = b by omega] at this
end Pu
section
variable {D : Hl} {p pw pp pb : Option Addr} {cap capw capp capb : Nat} {A Qb : List Nat} {V Pl : List Int} {eof shb uex hdr dic chk : Addr}
set_option maxHeartbeats 2000000 in
theorem fnDamaged_spec (hG : GD D eof shb uex hdr dic chk) (hd : Dat p A D) (hA : ∀ x ∈ A, x < 256) (hl : A.length ≤ 2 ^ 21) (hz : DatZ pw V D) (hV : ZW V) (hvl : V.length ≤ 2 ^ 21)
    (hp : DatZ pp Pl D) (hpl : Pl.length ≤ 2 ^ 21) (hq : Dat pb Qb D) (hQ : ∀ x ∈ Qb, x < 256) (hql : Qb.length ≤ 2 ^ 21) :
    CallsL Tryz.prog 3 #[.slice p A.length cap, .slice pw V.length capw, .slice pp Pl.length capp, .slice pb Qb.length capb] D fun v H' => v = .bool true ∧ ∃ Y, HSub H' D Y := by
  obtain ⟨hz1, hz2, hz3⟩ := zs_ok (tb := 94) (K := 2 ^ 20) (V := V) hA (by decide) hl (Nat.le_refl _); have hzs := zlib_spec (lv := 1) (tb := 94) (K := 2 ^ 20) (cap := cap) (capl := capw) (by decide) hd2_low1 (by decide) (by decide) (by decide) hd hA hl hz hV (by omega) (dmeas_le V hl) (by decide); generalize zs 94 A V (2 ^ 20) = Z at *; refine CallsL_of func3 rfl ntmps3 rfl ?_; try dsimp only [initE, Nat.zero_add]
  refine W_seq fun K1 hK1 => ?_; refine W_region ?_; refine xa rfl rfl ?_; refine WO_nil (sq_n (hK1 _ _ ?_)); refine W_seq fun K2 hK2 => ?_; refine W_seq fun K3 hK3 => ?_; refine W_region ?_; refine xm rfl rfl ?_; refine xp (v_len rfl underlying22 rfl) rfl ?_; refine xp (v_gt rfl rfl rfl (dF (by omega))) rfl ?_; refine xm rfl rfl ?_; refine xm rfl rfl ?_; refine xp (v_len rfl underlying23 rfl) rfl ?_
  refine xp (v_gt rfl rfl rfl (dF (by omega))) rfl ?_; refine xp (v_pf rfl rfl rfl) rfl ?_; refine xm rfl rfl ?_; refine xm rfl rfl ?_; refine xp (v_len rfl underlying23 rfl) rfl ?_; refine xp (v_gt rfl rfl rfl (dF (by omega))) rfl ?_; refine xp (v_pf rfl rfl rfl) rfl ?_; refine xm rfl rfl ?_; refine xm rfl rfl ?_; refine xp (v_len rfl underlying22 rfl) rfl ?_; refine xp (v_gt rfl rfl rfl (dF (by omega))) rfl ?_
  refine xp (v_pf rfl rfl rfl) rfl ?_; refine WO_nil (sq_n (hK3 _ _ ?_)); refine W.keep [0,1,2,3,8,37] rfl ?_; refine W_cond_f rfl ?_; refine W_skip (sq_n (hK2 _ _ ?_)); refine W_seq fun K4 hK4 => ?_; refine W_region ?_; refine xm rfl rfl ?_; refine xm rfl rfl ?_; refine wc (e_c rfl rfl rfl call5) rfl rfl rfl (hzs) .all ?_; rintro _ _ ⟨p9, c9, Hz, rfl, hO, rfl⟩
  obtain ⟨bz, rest, rfl, hcl0, hrl, rfl⟩ := hO.elem (by omega); clear hO hzs; (try simp only [ap4]); refine xa rfl rfl ?_; refine WO_nil (sq_n (hK4 _ _ ?_)); refine W.keep [2,3,8,9] rfl ?_; refine W_seq fun K5 hK5 => ?_; refine W_seq fun K6 hK6 => ?_; refine W_region ?_; refine xm rfl rfl ?_; refine xp (v_len rfl underlying23 rfl) rfl ?_; refine xm rfl rfl ?_; refine WO_nil (sq_n (hK6 _ _ ?_)); refine W_block ?_
  refine W_loop (fun m E H => ∃ i Y, i ≤ Pl.length ∧ m = Pl.length - i ∧ Y.length = Z.length ∧ (∀ c ∈ Y, c < 256) ∧ Sub E [(3, .slice pb Qb.length capb), (9, .slice (some ⟨bz, 0, none⟩) Z.length c9), (41, .slice pp Pl.length capp), (42, iV Pl.length), (43, iV i)] ∧ H = (bz, .cells (List.toArray (Y.map bV ++ rest)) 5 (0, 0)) :: D) (m := _) (⟨0, Z, Nat.zero_le _, rfl, rfl, hz1, ⟨rfl, rfl, rfl, rfl, rfl, trivial⟩, rfl⟩) ?_
  rintro m E H ⟨i, Y, hi, rfl, hYl, hYb, hE, rfl⟩; refine W.env hE ?_; refine W_seq fun K7 hK7 => ?_; refine W_region ?_; refine xp (n_lt rfl rfl rfl) rfl ?_; refine WO_nil (sq_n (hK7 _ _ ?_)); refine W_seq fun K8 hK8 => ?_; refine W_cond rfl (fun hc1 => ?_) (fun hc1 => ?_)
  · replace hc1 := of_decide_eq_true hc1; obtain ⟨b2, off, c, ty, fz, r, rfl, hat, hcc⟩ := hp (by intro e; rw [List.range_eq_nil] at e; omega); have hcell := hcc i (by rw [List.length_range]; exact hc1); rw [List.getElem_range] at hcell; obtain ⟨z, hzp⟩ : ∃ z, Pl.getD i 0 = z := ⟨_, rfl⟩; unfold zf at hcell; rw [hzp] at hcell; refine W_skip (sq_n (hK8 _ _ ?_)); refine W_seq fun K9 hK9 => ?_; refine W_block ?_
    refine W_seq fun K10 hK10 => ?_; refine W_region ?_; refine xm rfl rfl ?_; refine xp (v_ixs rfl underlying23 sizeOf3 rfl rfl (by omega)) rfl ?_; refine xv (v_ld rfl rfl isAgg3 (v := .int .i64 z) hcell) rfl ?_; refine xa rfl rfl ?_; refine xa rfl rfl ?_; refine WO_nil (sq_n (hK10 _ _ ?_)); refine W_seq fun K11 hK11 => ?_; refine W_region ?_; refine xm rfl rfl ?_; refine xp (v_len rfl underlying22 rfl) rfl ?_
    refine xp (n_gt rfl rfl rfl) rfl ?_; refine WO_nil (sq_n (hK11 _ _ ?_)); refine W_cond rfl (fun hc2 => ?_) (fun hc2 => ?_)
    · replace hc2 := of_decide_eq_true hc2; obtain ⟨b3, off3, c3, ty3, fz3, r3, rfl, hat3, hcc3⟩ := hq (by intro e; subst e; simp at hc2); have hmq := Nat.mod_lt i hc2; have hgq : c3[off3 + i % Qb.length]? = some (bV (Qb.getD (i % Qb.length) 0)) := by rw [hcc3 _ hmq, getD_in hmq]
      have hq8 := getD_256 hQ (i % Qb.length); obtain ⟨j, hj⟩ : ∃ j, (z % (Z.length : Int)).toNat = j := ⟨_, rfl⟩
      have hjn : j < Z.length := by
        have h1 := Int.emod_nonneg z (show (Z.length : Int) ≠ 0 by omega); have h2 := Int.emod_lt_of_pos z (show (0 : Int) < Z.length by omega); omega
      have hy8 := getD_256 hYb j; have htm := tmod3 (z := z) (m := Z.length) (by omega); rw [hj] at htm; have hb1 := Int.lt_tmod_of_pos z (show (0 : Int) < Z.length by omega); have hb2 := Int.tmod_lt_of_pos z (show (0 : Int) < Z.length by omega)
      have hgx : ∀ c ∈ Y.set j (Y.getD j 0 ^^^ Qb.getD (i % Qb.length) 0), c < 256 := fun c hc => (mem_set hc).elim (hYb c) fun e => by rw [e]; exact Nat.xor_lt_two_pow (n := 8) hy8 hq8
      refine W_draw mixed ?_; refine WA_k (fuel := 1) [0,1,2,3,4,5,6,7,8,9,10,11,12,13,14,15,16,17,18,19,20,21] rfl (by kernel_rfl) ?_; refine ym rfl rfl rfl ?_; refine ym rfl rfl rfl ?_; refine ym rfl rfl rfl ?_; refine yp rfl (v_len rfl underlying22 rfl) rfl ?_; refine yp rfl (v_rem rfl rfl rfl (by omega) (r := z.tmod Z.length) rfl) rfl ?_; refine ym rfl rfl rfl ?_; refine yp rfl (v_len rfl underlying22 rfl) rfl ?_
      refine yp rfl (v_add rfl rfl rfl (r := z.tmod Z.length + Z.length) (wrapI (by omega) (by omega))) rfl ?_; refine ym rfl rfl rfl ?_; refine yp rfl (v_len rfl underlying22 rfl) rfl ?_; refine yp rfl (v_rem rfl rfl rfl (by omega) (r := (j : Int)) htm) rfl ?_; refine yp rfl (v_ixs rfl underlying22 sizeOf5 rfl rfl (by omega)) rfl ?_; refine yv rfl (v_ld rfl rfl isAgg5 (map_get (f := bV) (by omega))) rfl ?_
      refine ym rfl rfl rfl ?_; refine ym rfl rfl rfl ?_; refine ym rfl rfl rfl ?_; refine yp rfl (v_len rfl underlying22 rfl) rfl ?_; refine yp rfl (n_rem rfl rfl rfl (by omega)) rfl ?_; refine yp rfl (v_ixs rfl underlying22 sizeOf5 rfl rfl (by omega)) rfl ?_; refine yv rfl (v_ld rfl rfl isAgg5 hgq) rfl ?_; refine yp rfl (n_xor rfl rfl rfl kB (by omega) (by omega)) rfl ?_
      refine yp rfl (v_ixs rfl underlying22 sizeOf5 rfl rfl (by omega)) rfl ?_; refine WK_nil ?_; refine WA_one (k := 22) rfl (by kernel_rfl) ?_; refine wst' rfl rfl rfl sizeOf5 rfl (map_put (f := bV) (by omega)) (by rw [List.length_append, List.length_map]; omega) rfl rfl ?_; refine WO_nil (sq_n ?_); refine WA_nil (by kernel_rfl) (bl_n (sq_n (hK9 _ _ ?_))); refine W_region ?_
      refine xp (n_add rfl rfl rfl kI (by omega)) rfl ?_; refine xm rfl rfl ?_; refine WO_nil (sq_n (?_)); first
      | (have h9 := hgx; refine ⟨Pl.length - (i + 1), by omega, i + 1, _, by omega, rfl, ?_, hgx, ⟨rfl, rfl, rfl, rfl, rfl, trivial⟩, rfl⟩; rw [List.length_set]; exact hYl)
      | exact ⟨Pl.length - (i + 1), by omega, i + 1, Y, by omega, rfl, hYl, hYb, ⟨rfl, rfl, rfl, rfl, rfl, trivial⟩, rfl⟩
    · replace hc2 := of_decide_eq_false hc2; refine W_skip (bl_n (sq_n (hK9 _ _ ?_))); refine W_region ?_; refine xp (n_add rfl rfl rfl kI (by omega)) rfl ?_; refine xm rfl rfl ?_; refine WO_nil (sq_n (?_)); first
      | (have h9 := hgx; refine ⟨Pl.length - (i + 1), by omega, i + 1, _, by omega, rfl, ?_, hgx, ⟨rfl, rfl, rfl, rfl, rfl, trivial⟩, rfl⟩; rw [List.length_set]; exact hYl)
      | exact ⟨Pl.length - (i + 1), by omega, i + 1, Y, by omega, rfl, hYl, hYb, ⟨rfl, rfl, rfl, rfl, rfl, trivial⟩, rfl⟩
  · replace hc1 := of_decide_eq_false hc1; clear hrl hz1 hi hc1; refine W_exit (sq_x (sq_x (bl_x (sq_n (hK5 _ _ ?_))))); refine W.keep [9] rfl ?_; refine W_seq fun K12 hK12 => ?_; rw [← hYl] at hz2 hz3 hcl0 ⊢; have hdY : ∀ G : Hl, DatV bV (some ⟨bz, 0, none⟩) Y (G ++ ((bz, .cells (List.toArray (Y.map bV ++ rest)) 5 (0, 0)) :: D)) := fun G => datV_cells.app G; rcases hu : unzl Y with _ | ⟨o, u⟩
    · skip
      refine W_region ?_; refine xm rfl rfl ?_; refine wc (e_c rfl rfl rfl call6) rfl rfl rfl (unzlib_spec (hdY []) hYb hz3 hcl0) .all ?_; rintro v _ ⟨G, hv, rfl⟩; rw [hu] at hv; change v = .tuple #[.slice none 0 0, .int .i64 0, .bool false] at hv
      subst hv; (try simp only [ap4]); refine xm rfl rfl ?_; refine xp (v_ex rfl rfl rfl) rfl ?_; refine xp (v_ex rfl rfl rfl) rfl ?_; refine xp (v_ex rfl rfl rfl) rfl ?_; refine xa rfl rfl ?_; refine xa rfl rfl ?_; refine xa rfl rfl ?_; refine WO_nil (sq_n (hK12 _ _ ?_)); refine W.keep [9,12,13,14] rfl ?_; refine W_seq fun K13 hK13 => ?_; refine W_region ?_; refine xm rfl rfl ?_
      refine wc (e_c rfl rfl rfl call7) rfl rfl rfl (unpack_spec ((hG.cons _).app G) (hdY G) hYb hz3 hcl0) .all ?_; rintro _ _ ⟨p2, L, c2, f, rst, G2, rfl, rfl, h1, h2, h3, h4, h5, h6, hor⟩; (try simp only [ap4]); refine xm rfl rfl ?_; refine xp (v_ex rfl rfl rfl) rfl ?_; refine xp (v_ex rfl rfl rfl) rfl ?_; refine xp (v_ex rfl rfl rfl) rfl ?_; refine xa rfl rfl ?_; refine xa rfl rfl ?_; refine xa rfl rfl ?_
      refine WO_nil (sq_n (hK13 _ _ ?_)); refine W.keep [9,12,13,14,15,16,17] rfl ?_; refine W_seq fun K14 hK14 => ?_; refine W_seq fun K15 hK15 => ?_; have hdY2 := (hdY G).app G2; rcases hak : asks Y with ⟨idn, is⟩
      · rcases is with _ | _
        skip
        · skip
          refine W_region ?_; refine xm rfl rfl ?_; refine wc (e_c rfl rfl rfl call8) rfl rfl rfl (asks_spec hdY2 hYb (by omega) hcl0) .all ?_; rintro _ Hx ⟨rfl, hHx⟩; rw [hHx, hak]; (try simp only [ap4]); refine xm rfl rfl ?_; refine xp (v_ex rfl rfl rfl) rfl ?_; refine xp (v_ex rfl rfl rfl) rfl ?_; refine xa rfl rfl ?_; refine xa rfl rfl ?_; refine WO_nil (sq_n (hK15 _ _ ?_))
          refine W.keep [9,12,13,14,15,16,17,18,19] rfl ?_; refine W_seq fun K16 hK16 => ?_; refine W_region ?_; refine xm rfl rfl ?_; refine xm rfl rfl ?_; refine xno rfl ?_; refine xno rfl ?_; refine xp (v_pf rfl rfl rfl) rfl ?_; refine WO_nil (sq_n (hK16 _ _ ?_)); refine W.keep [9,12,13,14,15,16,17,95] rfl ?_; refine W_cond_f rfl ?_; refine W_skip (sq_n (hK14 _ _ ?_)); refine W_seq fun K17 hK17 => ?_
          refine W_seq fun K18 hK18 => ?_; have hna : ¬ ((asks Y).2 = true ∧ (asks Y).1 = 1) := by rw [hak]; exact fun h => nomatch h.1
          refine W_region ?_; refine xm rfl rfl ?_; refine xp (v_not rfl rfl rfl) rfl ?_; refine WO_nil (sq_n (hK18 _ _ ?_)); refine W.keep [9,12,13,15,16,17,99] rfl ?_; refine W_cond_t rfl ?_; refine W_seq fun K19 hK19 => ?_; have hf0 : f ≠ 0 := fun e => hor.elim (fun h => by obtain ⟨u, h1, _⟩ := unz_unzl hna h.2; rw [hu] at h1; cases h1) fun h => h.1 e; refine W_region ?_; refine xm rfl rfl ?_
          refine xp (v_ne rfl rfl rfl (dT (by omega))) rfl ?_; refine xm rfl rfl ?_; refine wc (e_c rfl rfl rfl call5) rfl rfl rfl (zlib0_spec (D := D)) (.app (.app (.skip .all))) ?_; rintro _ _ ⟨pz, cz, Gz, rfl, hOz, rfl⟩; (try simp only [ap4]); refine wc (e_c rfl rfl rfl call9) rfl rfl rfl (reads_spec (hG.app Gz) (hOz.dat.appl D) (by decide) (by decide) hOz.capl z0_unz (by decide)) (.app (.app (.skip .all))) ?_
          rintro _ _ ⟨G3, rfl, rfl⟩; (try simp only [ap4]); refine xp (v_pt rfl rfl rfl) rfl ?_; refine xa rfl rfl ?_; refine WO_nil (sq_n (hK19 _ _ ?_)); refine W.keep [9,12,13,15,16,17,8] rfl ?_; refine W_ret (sq_r (ret_of (v := _) rfl ?_)); exact ⟨rfl, _, .app (.app (.skip (.app (.app .all))))⟩
        · skip
          by_cases hid : idn = 1
          · subst hid; refine W_region ?_; refine xm rfl rfl ?_; refine wc (e_c rfl rfl rfl call8) rfl rfl rfl (asks_spec hdY2 hYb (by omega) hcl0) .all ?_; rintro _ Hx ⟨rfl, hHx⟩; rw [hHx, hak]; (try simp only [ap4]); refine xm rfl rfl ?_; refine xp (v_ex rfl rfl rfl) rfl ?_; refine xp (v_ex rfl rfl rfl) rfl ?_; refine xa rfl rfl ?_; refine xa rfl rfl ?_; refine WO_nil (sq_n (hK15 _ _ ?_))
            refine W.keep [9,12,13,14,15,16,17,18,19] rfl ?_; refine W_seq fun K20 hK20 => ?_; refine W_region ?_; refine xm rfl rfl ?_; refine xm rfl rfl ?_; refine xm rfl rfl ?_; refine xp (v_eq rfl rfl rfl (dT (by rfl))) rfl ?_; refine xp (v_pt rfl rfl rfl) rfl ?_; refine WO_nil (sq_n (hK20 _ _ ?_)); refine W.keep [9,12,13,14,15,16,17,95] rfl ?_; refine W_cond_t rfl ?_; refine W_seq fun K21 hK21 => ?_
            refine W_region ?_; refine wc (e_c rfl rfl rfl call5) rfl rfl rfl (zlib0_spec (D := D)) (.app (.app (.skip .all))) ?_; rintro _ _ ⟨pz, cz, Gz, rfl, hOz, rfl⟩; (try simp only [ap4]); refine wc (e_c rfl rfl rfl call9) rfl rfl rfl (reads_spec (hG.app Gz) (hOz.dat.appl D) (by decide) (by decide) hOz.capl z0_unz (by decide)) (.app (.app (.skip .all))) ?_; rintro _ _ ⟨G3, rfl, rfl⟩; (try simp only [ap4])
            refine xa rfl rfl ?_; refine WO_nil (sq_n (hK21 _ _ ?_)); refine W.keep [9,12,13,14,15,16,17,8] rfl ?_; refine W_ret (sq_r (ret_of (v := _) rfl ?_)); exact ⟨rfl, _, .app (.app (.skip (.app (.app .all))))⟩
          · skip
            refine W_region ?_; refine xm rfl rfl ?_; refine wc (e_c rfl rfl rfl call8) rfl rfl rfl (asks_spec hdY2 hYb (by omega) hcl0) .all ?_; rintro _ Hx ⟨rfl, hHx⟩; rw [hHx, hak]; (try simp only [ap4]); refine xm rfl rfl ?_; refine xp (v_ex rfl rfl rfl) rfl ?_; refine xp (v_ex rfl rfl rfl) rfl ?_; refine xa rfl rfl ?_; refine xa rfl rfl ?_; refine WO_nil (sq_n (hK15 _ _ ?_))
            refine W.keep [9,12,13,14,15,16,17,18,19] rfl ?_; refine W_seq fun K22 hK22 => ?_; refine W_region ?_; refine xm rfl rfl ?_; refine xm rfl rfl ?_; refine xm rfl rfl ?_; refine xp (v_eq rfl rfl rfl (dF (by omega))) rfl ?_; refine xp (v_pt rfl rfl rfl) rfl ?_; refine WO_nil (sq_n (hK22 _ _ ?_)); refine W.keep [9,12,13,14,15,16,17,95] rfl ?_; refine W_cond_f rfl ?_; refine W_skip (sq_n (hK14 _ _ ?_))
            refine W_seq fun K23 hK23 => ?_; refine W_seq fun K24 hK24 => ?_; have hna : ¬ ((asks Y).2 = true ∧ (asks Y).1 = 1) := by rw [hak]; exact fun h => hid h.2
            refine W_region ?_; refine xm rfl rfl ?_; refine xp (v_not rfl rfl rfl) rfl ?_; refine WO_nil (sq_n (hK24 _ _ ?_)); refine W.keep [9,12,13,15,16,17,99] rfl ?_; refine W_cond_t rfl ?_; refine W_seq fun K25 hK25 => ?_; have hf0 : f ≠ 0 := fun e => hor.elim (fun h => by obtain ⟨u, h1, _⟩ := unz_unzl hna h.2; rw [hu] at h1; cases h1) fun h => h.1 e; refine W_region ?_; refine xm rfl rfl ?_
            refine xp (v_ne rfl rfl rfl (dT (by omega))) rfl ?_; refine xm rfl rfl ?_; refine wc (e_c rfl rfl rfl call5) rfl rfl rfl (zlib0_spec (D := D)) (.app (.app (.skip .all))) ?_; rintro _ _ ⟨pz, cz, Gz, rfl, hOz, rfl⟩; (try simp only [ap4]); refine wc (e_c rfl rfl rfl call9) rfl rfl rfl (reads_spec (hG.app Gz) (hOz.dat.appl D) (by decide) (by decide) hOz.capl z0_unz (by decide)) (.app (.app (.skip .all))) ?_
            rintro _ _ ⟨G3, rfl, rfl⟩; (try simp only [ap4]); refine xp (v_pt rfl rfl rfl) rfl ?_; refine xa rfl rfl ?_; refine WO_nil (sq_n (hK25 _ _ ?_)); refine W.keep [9,12,13,15,16,17,8] rfl ?_; refine W_ret (sq_r (ret_of (v := _) rfl ?_)); exact ⟨rfl, _, .app (.app (.skip (.app (.app .all))))⟩
    · skip
      refine W_region ?_; refine xm rfl rfl ?_; refine wc (e_c rfl rfl rfl call6) rfl rfl rfl (unzlib_spec (hdY []) hYb hz3 hcl0) .all ?_; rintro v _ ⟨G, hv, rfl⟩; rw [hu] at hv; obtain ⟨p5, c5, hv, hdt⟩ := hv; subst hv; have huz := unzl_unz hu; have hul := huz.2; (try simp only [ap4]); refine xm rfl rfl ?_; refine xp (v_ex rfl rfl rfl) rfl ?_; refine xp (v_ex rfl rfl rfl) rfl ?_; refine xp (v_ex rfl rfl rfl) rfl ?_
      refine xa rfl rfl ?_; refine xa rfl rfl ?_; refine xa rfl rfl ?_; refine WO_nil (sq_n (hK12 _ _ ?_)); refine W.keep [9,12,13,14] rfl ?_; refine W_seq fun K26 hK26 => ?_; refine W_region ?_; refine xm rfl rfl ?_; refine wc (e_c rfl rfl rfl call7) rfl rfl rfl (unpack_spec ((hG.cons _).app G) (hdY G) hYb hz3 hcl0) .all ?_; rintro _ _ ⟨p2, L, c2, f, rst, G2, rfl, rfl, h1, h2, h3, h4, h5, h6, hor⟩
      (try simp only [ap4]); refine xm rfl rfl ?_; refine xp (v_ex rfl rfl rfl) rfl ?_; refine xp (v_ex rfl rfl rfl) rfl ?_; refine xp (v_ex rfl rfl rfl) rfl ?_; refine xa rfl rfl ?_; refine xa rfl rfl ?_; refine xa rfl rfl ?_; refine WO_nil (sq_n (hK26 _ _ ?_)); refine W.keep [9,12,13,14,15,16,17] rfl ?_; refine W_seq fun K27 hK27 => ?_; refine W_seq fun K28 hK28 => ?_; have hdY2 := (hdY G).app G2
      rcases hak : asks Y with ⟨idn, is⟩
      · rcases is with _ | _
        skip
        · skip
          refine W_region ?_; refine xm rfl rfl ?_; refine wc (e_c rfl rfl rfl call8) rfl rfl rfl (asks_spec hdY2 hYb (by omega) hcl0) .all ?_; rintro _ Hx ⟨rfl, hHx⟩; rw [hHx, hak]; (try simp only [ap4]); refine xm rfl rfl ?_; refine xp (v_ex rfl rfl rfl) rfl ?_; refine xp (v_ex rfl rfl rfl) rfl ?_; refine xa rfl rfl ?_; refine xa rfl rfl ?_; refine WO_nil (sq_n (hK28 _ _ ?_))
          refine W.keep [9,12,13,14,15,16,17,18,19] rfl ?_; refine W_seq fun K29 hK29 => ?_; refine W_region ?_; refine xm rfl rfl ?_; refine xm rfl rfl ?_; refine xno rfl ?_; refine xno rfl ?_; refine xp (v_pf rfl rfl rfl) rfl ?_; refine WO_nil (sq_n (hK29 _ _ ?_)); refine W.keep [9,12,13,14,15,16,17,95] rfl ?_; refine W_cond_f rfl ?_; refine W_skip (sq_n (hK27 _ _ ?_)); refine W_seq fun K30 hK30 => ?_
          refine W_seq fun K31 hK31 => ?_; have hna : ¬ ((asks Y).2 = true ∧ (asks Y).1 = 1) := by rw [hak]; exact fun h => nomatch h.1
          refine W_region ?_; refine xm rfl rfl ?_; refine xp (v_not rfl rfl rfl) rfl ?_; refine WO_nil (sq_n (hK31 _ _ ?_)); refine W.keep [9,12,13,15,16,17,99] rfl ?_; refine W_cond_f rfl ?_; refine W_skip (sq_n (hK30 _ _ ?_)); refine W_seq fun K32 hK32 => ?_; obtain ⟨rfl, hun⟩ : f = 0 ∧ unz Y L rst := hor.elim id fun h => absurd huz.1 (h.2 _ _); obtain ⟨e1, e2⟩ := unz_uniq huz.1 hun; subst e1 e2; refine W_region ?_
          refine xm rfl rfl ?_; refine xp (v_eq rfl rfl rfl (dT (by rfl))) rfl ?_; refine xm rfl rfl ?_; refine xm rfl rfl ?_; refine xm rfl rfl ?_; refine wc (e_c rfl rfl rfl call10) rfl rfl rfl (same_spec (L := o) rfl rfl (h6.appl _) (((hdt.appl _).app G2))) .all ?_; rintro _ Hx ⟨rfl, hHx⟩; rw [hHx]; (try simp only [ap4]); refine xp (v_pt rfl rfl rfl) rfl ?_; refine xm rfl rfl ?_; refine xm rfl rfl ?_
          refine xm rfl rfl ?_; refine xp (v_len rfl underlying22 rfl) rfl ?_; refine xm rfl rfl ?_; refine xp (n_sub rfl rfl rfl kI (by omega) (by omega)) rfl ?_; refine xp (v_eq rfl rfl rfl (dT (by rfl))) rfl ?_; refine xp (v_pt rfl rfl rfl) rfl ?_; refine xa rfl rfl ?_; refine WO_nil (sq_n (hK32 _ _ ?_)); refine W.keep [8] rfl ?_; refine W_ret (ret_of (v := _) rfl ?_); exact ⟨rfl, _, .app (.app (.skip .all))⟩
        · skip
          by_cases hid : idn = 1
          · subst hid; refine W_region ?_; refine xm rfl rfl ?_; refine wc (e_c rfl rfl rfl call8) rfl rfl rfl (asks_spec hdY2 hYb (by omega) hcl0) .all ?_; rintro _ Hx ⟨rfl, hHx⟩; rw [hHx, hak]; (try simp only [ap4]); refine xm rfl rfl ?_; refine xp (v_ex rfl rfl rfl) rfl ?_; refine xp (v_ex rfl rfl rfl) rfl ?_; refine xa rfl rfl ?_; refine xa rfl rfl ?_; refine WO_nil (sq_n (hK28 _ _ ?_))
            refine W.keep [9,12,13,14,15,16,17,18,19] rfl ?_; refine W_seq fun K33 hK33 => ?_; refine W_region ?_; refine xm rfl rfl ?_; refine xm rfl rfl ?_; refine xm rfl rfl ?_; refine xp (v_eq rfl rfl rfl (dT (by rfl))) rfl ?_; refine xp (v_pt rfl rfl rfl) rfl ?_; refine WO_nil (sq_n (hK33 _ _ ?_)); refine W.keep [9,12,13,14,15,16,17,95] rfl ?_; refine W_cond_t rfl ?_; refine W_seq fun K34 hK34 => ?_
            refine W_region ?_; refine wc (e_c rfl rfl rfl call5) rfl rfl rfl (zlib0_spec (D := D)) (.app (.app (.skip .all))) ?_; rintro _ _ ⟨pz, cz, Gz, rfl, hOz, rfl⟩; (try simp only [ap4]); refine wc (e_c rfl rfl rfl call9) rfl rfl rfl (reads_spec (hG.app Gz) (hOz.dat.appl D) (by decide) (by decide) hOz.capl z0_unz (by decide)) (.app (.app (.skip .all))) ?_; rintro _ _ ⟨G3, rfl, rfl⟩; (try simp only [ap4])
            refine xa rfl rfl ?_; refine WO_nil (sq_n (hK34 _ _ ?_)); refine W.keep [9,12,13,14,15,16,17,8] rfl ?_; refine W_ret (sq_r (ret_of (v := _) rfl ?_)); exact ⟨rfl, _, .app (.app (.skip (.app (.app .all))))⟩
          · skip
            refine W_region ?_; refine xm rfl rfl ?_; refine wc (e_c rfl rfl rfl call8) rfl rfl rfl (asks_spec hdY2 hYb (by omega) hcl0) .all ?_; rintro _ Hx ⟨rfl, hHx⟩; rw [hHx, hak]; (try simp only [ap4]); refine xm rfl rfl ?_; refine xp (v_ex rfl rfl rfl) rfl ?_; refine xp (v_ex rfl rfl rfl) rfl ?_; refine xa rfl rfl ?_; refine xa rfl rfl ?_; refine WO_nil (sq_n (hK28 _ _ ?_))
            refine W.keep [9,12,13,14,15,16,17,18,19] rfl ?_; refine W_seq fun K35 hK35 => ?_; refine W_region ?_; refine xm rfl rfl ?_; refine xm rfl rfl ?_; refine xm rfl rfl ?_; refine xp (v_eq rfl rfl rfl (dF (by omega))) rfl ?_; refine xp (v_pt rfl rfl rfl) rfl ?_; refine WO_nil (sq_n (hK35 _ _ ?_)); refine W.keep [9,12,13,14,15,16,17,95] rfl ?_; refine W_cond_f rfl ?_; refine W_skip (sq_n (hK27 _ _ ?_))
            refine W_seq fun K36 hK36 => ?_; refine W_seq fun K37 hK37 => ?_; have hna : ¬ ((asks Y).2 = true ∧ (asks Y).1 = 1) := by rw [hak]; exact fun h => hid h.2
            refine W_region ?_; refine xm rfl rfl ?_; refine xp (v_not rfl rfl rfl) rfl ?_; refine WO_nil (sq_n (hK37 _ _ ?_)); refine W.keep [9,12,13,15,16,17,99] rfl ?_; refine W_cond_f rfl ?_; refine W_skip (sq_n (hK36 _ _ ?_)); refine W_seq fun K38 hK38 => ?_; obtain ⟨rfl, hun⟩ : f = 0 ∧ unz Y L rst := hor.elim id fun h => absurd huz.1 (h.2 _ _); obtain ⟨e1, e2⟩ := unz_uniq huz.1 hun; subst e1 e2
            refine W_region ?_; refine xm rfl rfl ?_; refine xp (v_eq rfl rfl rfl (dT (by rfl))) rfl ?_; refine xm rfl rfl ?_; refine xm rfl rfl ?_; refine xm rfl rfl ?_; refine wc (e_c rfl rfl rfl call10) rfl rfl rfl (same_spec (L := o) rfl rfl (h6.appl _) (((hdt.appl _).app G2))) .all ?_; rintro _ Hx ⟨rfl, hHx⟩; rw [hHx]; (try simp only [ap4]); refine xp (v_pt rfl rfl rfl) rfl ?_; refine xm rfl rfl ?_
            refine xm rfl rfl ?_; refine xm rfl rfl ?_; refine xp (v_len rfl underlying22 rfl) rfl ?_; refine xm rfl rfl ?_; refine xp (n_sub rfl rfl rfl kI (by omega) (by omega)) rfl ?_; refine xp (v_eq rfl rfl rfl (dT (by rfl))) rfl ?_; refine xp (v_pt rfl rfl rfl) rfl ?_; refine xa rfl rfl ?_; refine WO_nil (sq_n (hK38 _ _ ?_)); refine W.keep [8] rfl ?_; refine W_ret (ret_of (v := _) rfl ?_)
            exact ⟨rfl, _, .app (.app (.skip .all))⟩
end
end Go.Proofs.YtpbahgddoamhgaaGreatDoor
namespace Go.Proofs.YtpbahgddoamhgaaGreatDoor
open Go Sx Pu Go.ChangeShapes Go.WideShapes
set_option maxRecDepth 100000

noncomputable def hl (W : World) : Hl := W.heap.toList.zipIdx.map fun x => (x.2, x.1)
theorem mem_hl {W : World} {b : Nat} {o : Obj} : (b, o) ∈ hl W ↔ W.heap[b]? = some o := by
  unfold hl; rw [List.mem_map]; constructor
  · rintro ⟨⟨o2, b2⟩, h, e⟩; injection e with e1 e2
    subst e1 e2; have := List.mem_zipIdx_iff_getElem?.1 h; simpa using this
  · intro h; exact ⟨(o, b), List.mem_zipIdx_iff_getElem?.2 (by simpa using h), rfl⟩
theorem hp_hl (W : World) : Hp W W (hl W ++ []) := by
  rw [List.append_nil]; refine ⟨rfl, rfl, ?_, fun p hp => mem_hl.1 hp⟩
  have : (hl W).map Prod.fst = W.heap.toList.zipIdx.map Prod.snd := by
    unfold hl; rw [List.map_map]; rfl
  rw [this, List.zipIdx_map_snd]; exact List.nodup_range'
theorem atH_hl {W : World} {b : Nat} {o : Obj} (h : W.heap[b]? = some o) : ∃ r, AtH (hl W) b o r := by
  obtain ⟨A, B, e⟩ := List.append_of_mem (mem_hl.2 h); exact ⟨_, ⟨A, B, e, rfl⟩⟩
theorem atH_cells {W : World} {b : Nat} {c : Array Value} {t : TypeId} {fz : Nat × Nat} (h : W.heap[b]? = some (.cells c t fz)) : ∃ r, AtH (hl W) b (.cells (List.toArray c.toList) t fz) r :=
  atH_hl (by simpa using h)

structure Still (W W' : World) : Prop where
  os : W'.os = W.os
  out : W'.output = W.output
  heap : ∀ i, i < W.heap.size → W'.heap[i]? = W.heap[i]?
theorem still_of {W W' : World} {H' Y : Hl} (hp : Hp W W' (H' ++ [])) (hs : HSub H' (hl W) Y) : Still W W' := by
  refine ⟨hp.os, hp.out, fun i hi => ?_⟩; have h1 : W.heap[i]? = some W.heap[i] := Array.getElem?_eq_getElem hi; rw [h1]; refine hp.has (i, W.heap[i]) ?_; rw [List.append_nil]; exact hs.perm.mem_iff.2 (List.mem_append_left _ (mem_hl.2 h1))
theorem Still.cell {W W' : World} (h : Still W W') {a : Addr} {v : Value} (hc : W.cell? a = some v) : W'.cell? a = some v := by
  have hlt : a.block < W.heap.size := by
    rcases Nat.lt_or_ge a.block W.heap.size with h1 | h1
    · exact h1
    · simp [World.cell?, Array.getElem?_eq_none h1] at hc
  rw [← hc]; simp only [World.cell?, h.heap _ hlt]
theorem Still.kept {W W' : World} (h : Still W W') (may : MemPlace → Prop) : W.keptBut W' may := by
  refine ⟨h.os, h.out, fun i hi => ?_⟩; rw [h.heap i hi, Array.getElem?_eq_getElem hi]
  cases W.heap[i] with
  | cells c t fr => exact ⟨rfl, rfl, rfl, fun _ _ => rfl⟩
  | map es clock => exact .inr ⟨rfl, rfl⟩
  | _ => rfl

/-! the listed variables -/
theorem row184 (u : TypeId) (h : Tryz.prog.typeName? 3 u = some "*errors.errorString") : u = 184 :=
  typeName_ptr_named (nm := "errors.errorString") (by rw [show "*" ++ "errors.errorString" = "*errors.errorString" by decide]; kernel_rfl) (by kernel_rfl) (by decide) u (by rw [show "*" ++ "errors.errorString" = "*errors.errorString" by decide]; exact h)
theorem g_eof : Tryz.prog.globalNamed "io.EOF" = some 0 := by kernel_rfl
theorem g_hdr : Tryz.prog.globalNamed "cratestrap/pub/zlib.ErrHeader" = some 1 := by kernel_rfl
theorem g_dic : Tryz.prog.globalNamed "cratestrap/pub/zlib.ErrDictionary" = some 2 := by kernel_rfl
theorem g_chk : Tryz.prog.globalNamed "cratestrap/pub/zlib.ErrChecksum" = some 3 := by kernel_rfl
theorem g_uex : Tryz.prog.globalNamed "io.ErrUnexpectedEOF" = some 4 := by kernel_rfl
theorem g_shb : Tryz.prog.globalNamed "io.ErrShortBuffer" = some 6 := by kernel_rfl
theorem g_ord : Tryz.prog.globalNamed "cratestrap/pub/flate.codeOrder" = some 7 := by kernel_rfl
theorem gt0 : (Tryz.prog.globals[0]?).map (·.type) = some 47 := by kernel_rfl
theorem gt1 : (Tryz.prog.globals[1]?).map (·.type) = some 47 := by kernel_rfl
theorem gt2 : (Tryz.prog.globals[2]?).map (·.type) = some 47 := by kernel_rfl
theorem gt3 : (Tryz.prog.globals[3]?).map (·.type) = some 47 := by kernel_rfl
theorem gt4 : (Tryz.prog.globals[4]?).map (·.type) = some 47 := by kernel_rfl
theorem gt6 : (Tryz.prog.globals[6]?).map (·.type) = some 47 := by kernel_rfl
theorem gt7 : (Tryz.prog.globals[7]?).map (·.type) = some 149 := by kernel_rfl
theorem cells212 : Tryz.prog.cellsOf 212 = 1 := by kernel_rfl
theorem cells9 : Tryz.prog.cellsOf 9 = 1 := by kernel_rfl
theorem cells3 : Tryz.prog.cellsOf 3 = 1 := by kernel_rfl
theorem cells5 : Tryz.prog.cellsOf 5 = 1 := by kernel_rfl
theorem cells149 : Tryz.prog.cellsOf 149 = 19 := by kernel_rfl
theorem noHandles : (Rows.fnRawRow.laid.filter fun x => x.2.handleName?.isSome) = [] := by kernel_rfl
end Go.Proofs.YtpbahgddoamhgaaGreatDoor
namespace Go.Proofs.YtpbahgddoamhgaaGreatDoor
open Go.Proofs.Tryz
open Go Sx Pu Go.ChangeShapes Go.WideShapes
set_option maxRecDepth 100000

theorem var_heap {W : World} {n : String} {g : Nat} {cs : Array Value} (hg : Tryz.prog.globalNamed n = some g) (hv : W.var? Tryz.prog n = some cs) : ∃ t fz, W.heap[g]? = some (.cells cs t fz) := by
  unfold World.var? at hv; rw [hg] at hv; simp only [Option.bind_some] at hv
  split at hv
  · rename_i c t fz he
    injection hv with hv
    subst hv; exact ⟨_, _, he⟩
  · cases hv
abbrev plA (a : Addr) : MemPlace := .cell a.block (a.off + 0)
theorem step_err {W : World} {name : String} {g : Nat} {text : List UInt8} {rest : List (String × DataW Unit)} {ps : List MemPlace} (hg : Tryz.prog.globalNamed name = some g) (ht : (Tryz.prog.globals[g]?).map (·.type) = some 47)
    (h : DataW.LaidVars Tryz.prog W ((name, .iface "*errors.errorString" (.ptr (.agg [.lit (.string text)]))) :: rest) ps)
    (hrows : ∀ b off, MemPlace.cell b off ∈ ps → (∃ c t, W.heap[b]? = some (.cells c t (0, 0))) ∧ ∀ u v, W.cell? ⟨b, off, none⟩ = some (.iface u v) → Value.okWide Tryz.prog W .any 0 u v) :
    ∃ a q pre, (∃ t fz r, AtH (hl W) g (.cells (List.toArray [errV a]) t fz) r) ∧ (∃ c t r, AtH (hl W) a.block (.cells (List.toArray c) t (0, 0)) r) ∧ DataW.LaidVars Tryz.prog W rest q ∧ ps = pre ++ (plA a :: q) := by
  obtain ⟨g', t', cs, fuel, p, q, hg', ht', hv, hd, hq, e⟩ := h; obtain rfl := Option.some.inj (hg.symm.trans hg'); obtain rfl := Option.some.inj (ht.symm.trans ht'); obtain ⟨l⟩ := cs
  have hok : ∀ u v, l = [.iface u v] → Value.okWide Tryz.prog W .any 0 u v := fun u v el => by
    subst el; exact (hrows g 0 (by rw [e]; simp [MemPlace.row])).2 u v (by simpa using World.var?_cell hg hv 0)
  obtain ⟨a, s, rfl, hc, hs, hsz, rfl⟩ := errorString_of_trod underlying47 row184 underlying184 underlying212 rfl rfl underlying9 cells212 cells9 hd hok; obtain ⟨t, fz, hh⟩ := var_heap hg hv; obtain ⟨c, t2, hb⟩ := (hrows a.block (a.off + 0) (by rw [e]; simp [MemPlace.row])).1; obtain ⟨r, hr⟩ := atH_hl hh; obtain ⟨r2, hr2⟩ := atH_cells hb
  exact ⟨a, q, _, ⟨t, fz, r, hr⟩, ⟨_, t2, r2, hr2⟩, hq, by rw [e, List.append_assoc]; rfl⟩
theorem step_tab {W : World} {rest : List (String × DataW Unit)} {ps : List MemPlace} (h : DataW.LaidVars Tryz.prog W (("cratestrap/pub/flate.codeOrder", Rows.laid_cratestrap_pub_flate_codeOrder) :: rest) ps) :
    ∃ q pre, (∃ t fz r, AtH (hl W) 7 (.cells (List.toArray (orderL.map iV)) t fz) r) ∧ DataW.LaidVars Tryz.prog W rest q ∧ ps = pre ++ q := by
  obtain ⟨g', t', cs, fuel, p, q, hg', ht', hv, hd, hq, e⟩ := h; obtain rfl := Option.some.inj (g_ord.symm.trans hg'); obtain rfl := Option.some.inj (gt7.symm.trans ht'); have hcs := Lib.cells_of_tab (zs := [16, 17, 18, 0, 8, 7, 9, 6, 10, 5, 11, 4, 12, 3, 13, 2, 14, 1, 15]) underlying149 underlying3 cells3 cells149 hd; obtain ⟨l⟩ := cs; obtain ⟨t, fz, hh⟩ := var_heap g_ord hv; obtain ⟨r, hr⟩ := atH_hl hh
  refine ⟨q, _, ⟨t, fz, r, ?_⟩, hq, e⟩; have : l = orderL.map iV := hcs; subst this; exact hr
theorem laid_facts {W : World} (h : laidMetH Tryz.prog Rows.fnRawRow.laid W) : ∃ eof shb uex hdr dic chk, GD (hl W) eof shb uex hdr dic chk := by
  unfold laidMetH at h; rw [noHandles] at h; obtain ⟨ps, hL, hnd, hrows⟩ := (h : laidMet Tryz.prog Rows.fnRawRow.laid W); obtain ⟨shb, q1, p1, hs1, hb1, hL1, rfl⟩ := step_err g_shb gt6 hL hrows; have hr1 := fun b off hm => hrows b off (List.mem_append_right _ (List.mem_cons_of_mem _ hm)); obtain ⟨eof, q2, p2, hs2, hb2, hL2, rfl⟩ := step_err g_eof gt0 hL1 hr1
  have hr2 := fun b off hm => hr1 b off (List.mem_append_right _ (List.mem_cons_of_mem _ hm)); obtain ⟨uex, q3, p3, hs3, hb3, hL3, rfl⟩ := step_err g_uex gt4 hL2 hr2; have hr3 := fun b off hm => hr2 b off (List.mem_append_right _ (List.mem_cons_of_mem _ hm)); obtain ⟨q4, p4, hs4, hL4, rfl⟩ := step_tab hL3; have hr4 := fun b off hm => hr3 b off (List.mem_append_right _ hm)
  obtain ⟨chk, q5, p5, hs5, hb5, hL5, rfl⟩ := step_err g_chk gt3 hL4 hr4; have hr5 := fun b off hm => hr4 b off (List.mem_append_right _ (List.mem_cons_of_mem _ hm)); obtain ⟨dic, q6, p6, hs6, hb6, hL6, rfl⟩ := step_err g_dic gt2 hL5 hr5; have hr6 := fun b off hm => hr5 b off (List.mem_append_right _ (List.mem_cons_of_mem _ hm)); obtain ⟨hdr, q7, p7, hs7, hb7, hL7, rfl⟩ := step_err g_hdr gt1 hL6 hr6
  have key : ([shb, eof, uex, chk, dic, hdr].map plA).Nodup := by
    refine hnd.sublist ?_; have l7 : [plA hdr].Sublist (p7 ++ plA hdr :: q7) := .trans (.cons_cons _ (List.nil_sublist _)) (List.sublist_append_right _ _); have l6 : [plA dic, plA hdr].Sublist (p6 ++ plA dic :: (p7 ++ plA hdr :: q7)) := .trans (.cons_cons _ l7) (List.sublist_append_right _ _)
    have l5 : [plA chk, plA dic, plA hdr].Sublist (p5 ++ plA chk :: (p6 ++ plA dic :: (p7 ++ plA hdr :: q7))) := .trans (.cons_cons _ l6) (List.sublist_append_right _ _); have l4 := l5.trans (List.sublist_append_right p4 _); have l3 := (List.Sublist.cons_cons (plA uex) l4).trans (List.sublist_append_right p3 _); have l2 := (List.Sublist.cons_cons (plA eof) l3).trans (List.sublist_append_right p2 _)
    exact (List.Sublist.cons_cons (plA shb) l2).trans (List.sublist_append_right p1 _)
  have hn : [shb, eof, uex, chk, dic, hdr].Nodup := List.Pairwise.of_map plA (fun a b h e => h (by rw [e])) key
  have hperm : [shb, eof, uex, chk, dic, hdr].Perm [eof, shb, uex, hdr, dic, chk] :=
    List.Perm.map (fun i => [shb, eof, uex, chk, dic, hdr].getD i shb) (show [0, 1, 2, 3, 4, 5].Perm [1, 0, 2, 5, 4, 3] by decide)
  refine ⟨eof, shb, uex, hdr, dic, chk, ⟨hs2, hs7, hs6, hs5, hs3, hs1, hs4, fun a ha => ?_, hperm.nodup_iff.1 hn⟩⟩; simp only [List.mem_cons, List.not_mem_nil, or_false] at ha
  rcases ha with rfl | rfl | rfl | rfl | rfl | rfl <;> assumption

/-! the arguments -/
section
variable {H : Type} {enc : TypeId × Value → H} {W : World}
theorem bulk_one (d : DataW H) : 1 ≤ Rows.uptoBulk d := by
  cases d with
  | lit l => cases l <;> simp [Rows.uptoBulk]
  | _ => simp [Rows.uptoBulk]
theorem bulk_len (l : List (DataW H)) : l.length ≤ Rows.uptoBulkAll l := by
  induction l with
  | nil => simp [Rows.uptoBulkAll]
  | cons x r ih => have := bulk_one x; simp only [Rows.uptoBulkAll, List.length_cons]; omega
theorem arg_ints {t e : TypeId} {k : IntKind} {b0 : Nat} {v : Value} {d : DataW H} {p : List MemPlace} (ht : Tryz.prog.underlying t = some (.slice e)) (he : Tryz.prog.underlying e = some (.int k)) (hc : Tryz.prog.cellsOf e = 1)
    (hval : Value.okWide Tryz.prog W .any b0 t v) (hd : DataW.Trod enc Tryz.prog W 0 (fun _ => true) true t v d p) (hlt : ∀ q ∈ p, q.block < W.heap.size) :
    ∃ (L : List Int) (q : Option Addr) (cap : Nat), v = .slice q L.length cap ∧ L.length ≤ cap ∧ (∀ n ∈ L, (Lit.int k n).wf = true) ∧ L.length ≤ Rows.uptoBulk d ∧
      (L ≠ [] → ∃ b off c ty fz r, q = some ⟨b, off, none⟩ ∧ AtH (hl W) b (.cells (List.toArray c) ty fz) r ∧ ∀ i (h : i < L.length), c[off + i]? = some (.int k L[i])) ∧
      ∀ W', Still W W' → DataW.Trod enc Tryz.prog W' 0 (fun b => decide (b < W.heap.size)) true t v d p := by
  obtain ⟨a0, len, cap, rfl⟩ := okWide_slice ht hval; obtain ⟨fuel, hf⟩ := hd; rcases open_ints ht he hc hf with ⟨hcs, hx⟩ | ⟨a, len', cap', zs, hcs, _, hle, hmax, hall, hx, hcell, hwf⟩
  · simp only [Value.cells, List.cons.injEq, and_true, Value.slice.injEq] at hcs
    obtain ⟨rfl, rfl, rfl⟩ := hcs; simp only [Prod.mk.injEq] at hx
    obtain ⟨rfl, rfl⟩ := hx; exact ⟨[], none, 0, rfl, Nat.le_refl _, by simp, Nat.zero_le _, fun h => absurd rfl h, fun W' _ => ⟨1, by simp [DataW.trod, ht, Value.cells]⟩⟩
  · simp only [Value.cells, List.cons.injEq, and_true, Value.slice.injEq] at hcs
    obtain ⟨rfl, rfl, rfl⟩ := hcs; simp only [Prod.mk.injEq] at hx
    obtain ⟨rfl, rfl⟩ := hx; simp only [if_true] at hall
    have htl : (zs.take len).length = len := by rw [List.length_take]; omega
    refine ⟨zs.take len, some a, cap, by rw [htl], by rw [htl]; exact hle, fun n hn => hwf n (List.mem_of_mem_take hn), ?_, fun hne => ?_, fun W' hs => ⟨2, ?_⟩⟩
    · have := bulk_len (lits (H := H) k (zs.take len)); simp only [lits, List.length_map] at this
      simp only [Rows.uptoBulk, lits]
      omega
    · have hp : 0 < zs.length := by
        rcases Nat.eq_zero_or_pos zs.length with h | h
        · exact absurd (by rw [List.length_eq_zero_iff.1 h, List.take_nil]) hne
        · exact h
      obtain ⟨b, off, rfl, hcc⟩ := Go.ints_at hcell hp; have h0 := hcc 0 hp
      obtain ⟨c, ty, fz, hh⟩ : ∃ c ty fz, W.heap[b]? = some (.cells c ty fz) := by
        unfold World.cell? at h0; split at h0
        · rename_i c ty fz hh; exact ⟨c, ty, fz, hh⟩
        · cases h0
      obtain ⟨r, hr⟩ := atH_cells hh; refine ⟨b, off, c.toList, ty, fz, r, rfl, hr, fun i hi => ?_⟩; have hi2 : i < zs.length := by rw [List.length_take] at hi; omega
      have := hcc i hi2; simp only [World.cell?, hh] at this
      rw [List.getD_eq_getElem?_getD, List.getElem?_eq_getElem hi2] at this; simpa using this
    · refine shut_ints 0 ht he hc (Nat.zero_le _) hle hmax ?_ (fun i hi => hs.cell (hcell i hi)) hwf; rcases Nat.eq_zero_or_pos zs.length with h | h
      · split <;> omega
      · rw [if_pos]
        · exact hall
        · exact decide_eq_true (hlt (.cell a.block (a.off + 0)) (by unfold MemPlace.row; exact List.mem_map.2 ⟨0, List.mem_range.2 h, rfl⟩))
end
end Go.Proofs.YtpbahgddoamhgaaGreatDoor
namespace Go.Proofs.YtpbahgddoamhgaaGreatDoor
open Go.Proofs.Tryz
open Go Sx Pu Go.ChangeShapes Go.WideShapes Go.RowKit
set_option maxRecDepth 100000

section
variable {W : World} {L : List Int} {q : Option Addr}
theorem bytes_of (hw : ∀ n ∈ L, (Lit.int .u8 n).wf = true) (hd : L ≠ [] → ∃ b off c ty fz r, q = some ⟨b, off, none⟩ ∧ AtH (hl W) b (.cells (List.toArray c) ty fz) r ∧ ∀ i (h : i < L.length), c[off + i]? = some (.int .u8 L[i])) :
    Dat q (L.map Int.toNat) (hl W) ∧ (∀ x ∈ L.map Int.toNat, x < 256) ∧ (L.map Int.toNat).length = L.length := by
  refine ⟨fun hne => ?_, fun x hx => ?_, List.length_map _⟩
  · obtain ⟨b, off, c, ty, fz, r, h1, h2, h3⟩ := hd (fun e => hne (by rw [e]; rfl)); refine ⟨b, off, c, ty, fz, r, h1, h2, fun i hi => ?_⟩; have hi2 : i < L.length := by simpa using hi
    have hb := bounds_u8 (hw L[i] (List.getElem_mem hi2)); rw [h3 i hi2, List.getElem_map]; show _ = some (Value.int .u8 ((L[i].toNat : Nat) : Int))
    rw [Int.toNat_of_nonneg hb.1]
  · obtain ⟨n, hn, rfl⟩ := List.mem_map.1 hx; have := bounds_u8 (hw n hn); omega
theorem ints_of (hw : ∀ n ∈ L, (Lit.int .i64 n).wf = true) (hd : L ≠ [] → ∃ b off c ty fz r, q = some ⟨b, off, none⟩ ∧ AtH (hl W) b (.cells (List.toArray c) ty fz) r ∧ ∀ i (h : i < L.length), c[off + i]? = some (.int .i64 L[i])) :
    DatZ q L (hl W) ∧ ZW L := by
  refine ⟨fun hne => ?_, fun i => ?_⟩
  · obtain ⟨b, off, c, ty, fz, r, h1, h2, h3⟩ := hd (fun e => hne (by rw [e]; rfl)); refine ⟨b, off, c, ty, fz, r, h1, h2, fun i hi => ?_⟩; have hi2 : i < L.length := by simpa using hi
    rw [h3 i hi2, List.getElem_range]; unfold zf; rw [List.getD_eq_getElem?_getD, List.getElem?_eq_getElem hi2]; rfl
  · rcases Nat.lt_or_ge i L.length with h | h
    · have := bounds_i64 (hw L[i] (List.getElem_mem h)); rw [List.getD_eq_getElem?_getD, List.getElem?_eq_getElem h, Option.getD_some]; omega
    · rw [List.getD_eq_getElem?_getD, List.getElem?_eq_none h, Option.getD_none]; decide
end
theorem raw_contract (H : Type) (enc : TypeId × Value → H) (W : World) (base : Nat) (args : Array Value) (ds gs : List (DataW H)) (before : List MemPlace)
    (hval : ∀ (j : Nat) t v, Tryz.f4.params[j]? = some t → args[j]? = some v → Value.okWide Tryz.prog W .any base t v)
    (hW : DataW.Whole enc Tryz.prog Tryz.f4.params.toList Rows.fnRawSpec.vars false W args.toList ds gs before) (hL : laidMetH Tryz.prog Rows.fnRawRow.laid W) :
    Calls Tryz.prog 4 args W fun e W' => ∃ v, e = .returned v ∧ Rows.fnRawSpec.post enc Tryz.prog Tryz.f4 false true false false W args v W' := by
  have hlt := hW.lt; have hW' := hW; obtain ⟨p, q, hA0, hV, rfl, hfz, hnd⟩ := hW; have hA : DataW.TrodAll enc Tryz.prog W 0 (fun _ => true) true Tryz.f4.params.toList args.toList ds p := hA0; rw [Tryz.params4] at hA hval; obtain ⟨v0, d0, rfl, rfl, h0⟩ := trodAll_one hA; obtain ⟨rfl, rfl⟩ := trodVars_none hV; clear hA0
  obtain ⟨L, q, cap, rfl, hcap, hwf, _, hdat, hst⟩ := arg_ints underlying22 underlying5 cells5 (hval 0 22 v0 rfl rfl) h0 (fun x hx => hlt x (List.mem_append_left _ hx)); obtain ⟨hb1, hb2, hb3⟩ := bytes_of hwf hdat; obtain ⟨eof, shb, uex, hdr, dic, chk, hG⟩ := laid_facts hL; have hc := fnRaw_spec hG hb1 hb2 (cap := cap) (by rw [hb3]; exact hcap); rw [hb3] at hc; refine (hc W [] W (hp_hl W)).mono ?_
  rintro e W' ⟨v, H', rfl, ⟨rfl, Y, hs⟩, hp⟩; have hS := still_of hp hs; exact ⟨_, rfl, [d0], [], p ++ [], [], p, [], hW', trodAll_mk1 (shut_bool underlying4 true), trodAll_mk1 (hst W' hS), rfl, hS.kept _, fun h => by cases h⟩
theorem damaged_contract (H : Type) (enc : TypeId × Value → H) (W : World) (base : Nat) (args : Array Value) (ds gs : List (DataW H)) (before : List MemPlace)
    (hval : ∀ (j : Nat) t v, Tryz.f3.params[j]? = some t → args[j]? = some v → Value.okWide Tryz.prog W .any base t v)
    (hW : DataW.Whole enc Tryz.prog Tryz.f3.params.toList Rows.fnDamagedSpec.vars false W args.toList ds gs before) (hk : Rows.uptoSmall H (ds ++ gs) = true) (hL : laidMetH Tryz.prog Rows.fnRawRow.laid W) :
    Calls Tryz.prog 3 args W fun e W' => ∃ v, e = .returned v ∧ Rows.fnDamagedSpec.post enc Tryz.prog Tryz.f3 false true false false W args v W' := by
  have hlt := hW.lt; have hW' := hW; obtain ⟨p, q, hA0, hV, rfl, hfz, hnd⟩ := hW; have hA : DataW.TrodAll enc Tryz.prog W 0 (fun _ => true) true Tryz.f3.params.toList args.toList ds p := hA0; rw [Tryz.params3] at hA hval; obtain ⟨v0, vs0, d0, ds0, p0, q0, ha0, rfl, rfl, h0, r0⟩ := trodAll_cons hA; obtain ⟨v1, vs1, d1, ds1, p1, q1, rfl, rfl, rfl, h1, r1⟩ := trodAll_cons r0
  obtain ⟨v2, vs2, d2, ds2, p2, q2, rfl, rfl, rfl, h2, r2⟩ := trodAll_cons r1; obtain ⟨v3, vs3, d3, ds3, p3, q3, rfl, rfl, rfl, h3, r3⟩ := trodAll_cons r2; obtain ⟨rfl, rfl, rfl⟩ := trodAll_nil r3; obtain rfl : args = #[v0, v1, v2, v3] := by cases args; simp_all
  obtain ⟨rfl, rfl⟩ := trodVars_none hV; clear hA0; have hbd := of_decide_eq_true hk; simp only [List.cons_append, List.nil_append, Rows.uptoBulkAll] at hbd
  obtain ⟨L0, a0, cap0, rfl, hcap0, hwf0, hbk0, hdat0, hst0⟩ := arg_ints underlying22 underlying5 cells5 (hval 0 22 v0 rfl rfl) h0 (fun x hx => hlt x (by simp [hx])); obtain ⟨L1, a1, cap1, rfl, hcap1, hwf1, hbk1, hdat1, hst1⟩ := arg_ints underlying23 underlying3 cells3 (hval 1 23 v1 rfl rfl) h1 (fun x hx => hlt x (by simp [hx]))
  obtain ⟨L2, a2, cap2, rfl, hcap2, hwf2, hbk2, hdat2, hst2⟩ := arg_ints underlying23 underlying3 cells3 (hval 2 23 v2 rfl rfl) h2 (fun x hx => hlt x (by simp [hx])); obtain ⟨L3, a3, cap3, rfl, hcap3, hwf3, hbk3, hdat3, hst3⟩ := arg_ints underlying22 underlying5 cells5 (hval 3 22 v3 rfl rfl) h3 (fun x hx => hlt x (by simp [hx])); obtain ⟨b01, b02, b03⟩ := bytes_of hwf0 hdat0
  obtain ⟨b31, b32, b33⟩ := bytes_of hwf3 hdat3; obtain ⟨z11, z12⟩ := ints_of hwf1 hdat1; obtain ⟨z21, z22⟩ := ints_of hwf2 hdat2; obtain ⟨eof, shb, uex, hdr, dic, chk, hG⟩ := laid_facts hL; have hc := fnDamaged_spec (cap := cap0) (capw := cap1) (capp := cap2) (capb := cap3) hG b01 b02 (by rw [b03]; omega) z11 z12 (by omega) z21 (by omega) b31 b32 (by rw [b33]; omega); rw [b03, b33] at hc
  refine (hc W [] W (hp_hl W)).mono ?_; rintro e W' ⟨v, H', rfl, ⟨rfl, Y, hs⟩, hp⟩; have hS := still_of hp hs; exact ⟨_, rfl, _, [], _, [], _, [], hW', trodAll_mk1 (shut_bool underlying4 true), trodAll_cons_mk (hst0 W' hS) (trodAll_cons_mk (hst1 W' hS) (trodAll_cons_mk (hst2 W' hS) (trodAll_cons_mk (hst3 W' hS) trodAll_mk0))), rfl, hS.kept _, fun h => by cases h⟩
end Go.Proofs.YtpbahgddoamhgaaGreatDoor
namespace Go.Proofs.YtpbahgddoamhgaaGreatDoor
open Go Go.ChangeShapes Go.WideShapes Go.ChangeAt Go.RowKit
set_option maxRecDepth 100000

theorem ownK : ownKnob Tryz.prog.godebug = none := by kernel_rfl
abbrev sShb : ByteArray := { data := #[115, 104, 111, 114, 116, 32, 98, 117, 102, 102, 101, 114] }
abbrev sEof : ByteArray := { data := #[69, 79, 70] }
abbrev sUex : ByteArray := { data := #[117, 110, 101, 120, 112, 101, 99, 116, 101, 100, 32, 69, 79, 70] }
abbrev sChk : ByteArray := { data := #[122, 108, 105, 98, 58, 32, 105, 110, 118, 97, 108, 105, 100, 32, 99, 104, 101, 99, 107, 115, 117, 109] }
abbrev sDic : ByteArray := { data := #[122, 108, 105, 98, 58, 32, 105, 110, 118, 97, 108, 105, 100, 32, 100, 105, 99, 116, 105, 111, 110, 97, 114, 121] }
abbrev sHdr : ByteArray := { data := #[122, 108, 105, 98, 58, 32, 105, 110, 118, 97, 108, 105, 100, 32, 104, 101, 97, 100, 101, 114] }
noncomputable def low : Nat := (World.holding Tryz.prog default ⟨#[], #[], []⟩).heap.size
def put1 (c : Array Value) : Obj → Obj
  | .cells _ t frozen => .cells c t frozen
  | o => o
noncomputable def laidWorld (os : Os) : World :=
  let w0 := World.holding Tryz.prog os ⟨#[.cells #[.string sShb] 212, .cells #[.string sEof] 212, .cells #[.string sUex] 212, .cells #[.string sChk] 212, .cells #[.string sDic] 212, .cells #[.string sHdr] 212], #[], []⟩
  let e (i : Nat) : Obj → Obj := put1 #[.iface 184 (.pointer (some ⟨low + i, 0, none⟩))]
  let o : Obj → Obj := put1 #[.int .i64 16, .int .i64 17, .int .i64 18, .int .i64 0, .int .i64 8, .int .i64 7, .int .i64 9, .int .i64 6, .int .i64 10, .int .i64 5, .int .i64 11, .int .i64 4, .int .i64 12, .int .i64 3, .int .i64 13, .int .i64 2, .int .i64 14, .int .i64 1, .int .i64 15]
  let h := ((((((w0.heap.modify 6 (e 0)).modify 0 (e 1)).modify 4 (e 2)).modify 3 (e 3)).modify 2 (e 4)).modify 1 (e 5)).modify 7 o
  { w0 with heap := h }
theorem laid_met1 (os : Os) : laidMet Tryz.prog Rows.fnRawRow.laid ((laidWorld os).forCall (fun _ _ => 0) ⟨#[], #[.slice none 0 0], []⟩).memory :=
  laidMet_of_run' 8 (by kernel_rfl) (by kernel_rfl)
theorem laid_met4 (os : Os) : laidMet Tryz.prog Rows.fnDamagedUptoRow.laid ((laidWorld os).forCall (fun _ _ => 0) ⟨#[], #[.slice none 0 0, .slice none 0 0, .slice none 0 0, .slice none 0 0], []⟩).memory :=
  laidMet_of_run' 8 (by kernel_rfl) (by kernel_rfl)
theorem laidMetH_of {l : List (String × DataW Unit)} {w : World} (hn : (l.filter fun x => x.2.handleName?.isSome) = []) (h : laidMet Tryz.prog l w) : laidMetH Tryz.prog l w := by
  unfold laidMetH; rw [hn]; exact h
theorem noHandles4 : (Rows.fnDamagedUptoRow.laid.filter fun x => x.2.handleName?.isSome) = [] := by kernel_rfl
end Go.Proofs.YtpbahgddoamhgaaGreatDoor
