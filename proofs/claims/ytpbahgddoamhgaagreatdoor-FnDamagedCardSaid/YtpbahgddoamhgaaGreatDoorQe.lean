/- Part 5 of 12 of the proof: the executor, the walks and the plain laws, in build order. -/
import Derived.Test.YtpbahgddoamhgaaGreatDoorQd
import Derived.ScopeJumps
namespace Go.Proofs.YtpbahgddoamhgaaGreatDoor.Pu

theorem sym_cases {L : List Nat} (h15 : ∀ x ∈ L, x ≤ 15) {B : List Nat} {P : Nat} (hP : P ≤ 8 * B.length) :
    (∃ s, Hit L s (bitsv B P 15) ∧ P + L.getD s 0 ≤ 8 * B.length ∧ sym B (ents L L.length) ⟨P, false⟩ = (s, ⟨P + L.getD s 0, false⟩)) ∨
    ((∀ s, Hit L s (bitsv B P 15) → 8 * B.length < P + L.getD s 0) ∧ (sym B (ents L L.length) ⟨P, false⟩).2.fail = true) := by
  rcases Classical.em (∃ s, Hit L s (bitsv B P 15) ∧ P + L.getD s 0 ≤ 8 * B.length) with ⟨s, h1, h2⟩ | h
  · exact .inl ⟨s, h1, h2, sym_hit h15 h1 h2⟩
  · have h2 : ∀ s, Hit L s (bitsv B P 15) → 8 * B.length < P + L.getD s 0 := fun s hs => by
      rcases Nat.lt_or_ge (8 * B.length) (P + L.getD s 0) with h3 | h3
      · exact h3
      · exact absurd ⟨s, hs, h3⟩ h
    exact .inr ⟨h2, sym_miss h15 hP h2⟩
theorem RS.eta (s : RS) (h : s.fail = false) : s = ⟨s.at_, false⟩ := by cases s; simp_all
/-- a block that is right reads its end -/
theorem rblk_need {B L1 : List Nat} {d : Ents} (h15 : ∀ x ∈ L1, x ≤ 15) : ∀ (k : Nat) (O : List Nat) (P : Nat), 8 * B.length < k + P → P ≤ 8 * B.length → (rblk B (ents L1 L1.length) d k O ⟨P, false⟩).2.fail = false →
    1 ≤ L1.getD 256 0 ∧ P + L1.getD 256 0 ≤ 8 * B.length
  | 0, O, P, h1, h2, _ => by omega
  | k + 1, O, P, h1, h2, h => by
    rw [rblk, if_neg (by simp)] at h; rcases sym_cases h15 h2 with ⟨s, hs1, hs2, hs3⟩ | ⟨_, hf⟩
    · rw [hs3] at h; have hpos := hs1.2.1; by_cases h256 : s = 256
      · subst h256; exact ⟨hpos, hs2⟩
      · rw [if_neg (by simp [h256])] at h
        split at h
        · have := rblk_need h15 k _ _ (by omega) hs2 h; omega
        · split at h
          · cases h
          · split at h
            · cases h
            · split at h
              · cases h
              · rename_i hn; simp only at h hn; have hx : (rbits B (distExtra (sym B d (rbits B (lenExtra s) ⟨P + L1.getD s 0, false⟩).2).1) (sym B d (rbits B (lenExtra s) ⟨P + L1.getD s 0, false⟩).2).2).2.fail = false := by
                  cases hc : (rbits B (distExtra (sym B d (rbits B (lenExtra s) ⟨P + L1.getD s 0, false⟩).2).1) (sym B d (rbits B (lenExtra s) ⟨P + L1.getD s 0, false⟩).2).2).2.fail
                  · rfl
                  · exact absurd (.inl hc) hn
                have m1 := rbits_mono B (lenExtra s) ⟨P + L1.getD s 0, false⟩; have m2 := symF_mono (B := B) (l := d) 15 1 0 (rbits B (lenExtra s) ⟨P + L1.getD s 0, false⟩).2; change _ ≤ (sym B d _).2.at_ at m2; have m3 := rbits_mono B (distExtra (sym B d (rbits B (lenExtra s) ⟨P + L1.getD s 0, false⟩).2).1) (sym B d (rbits B (lenExtra s) ⟨P + L1.getD s 0, false⟩).2).2; have q1 := rbits_le (B := B) (lenExtra s) (s := ⟨P + L1.getD s 0, false⟩) hs2; have q2 := sym_le (l := d) q1; have q3 := rbits_le (B := B) (distExtra (sym B d (rbits B (lenExtra s) ⟨P + L1.getD s 0, false⟩).2).1) q2; rw [RS.eta _ hx] at h; have := rblk_need h15 k _ _ (by simp only at m1; omega) q3 h; simp only at m1; omega
    · exfalso
      rw [if_pos (.inl hf)] at h; rw [hf] at h; cases h
theorem rinf_fail {B O : List Nat} {last : Nat} {s : RS} (h : s.fail = true) (k : Nat) : (rinf B k O last s).2.fail = true := by
  rw [rinf_end (.inr h)]; exact h
/-- what is to come when a block of codes is under way -/
def restH (B L1 L2 : List Nat) (kf kb last : Nat) (O : List Nat) (P : Nat) : List Nat × RS :=
  rinf B kf (rblk B (ents L1 L1.length) (ents L2 L2.length) kb O ⟨P, false⟩).1 last (rblk B (ents L1 L1.length) (ents L2 L2.length) kb O ⟨P, false⟩).2
theorem restH_fail {B L1 L2 : List Nat} {kf kb last P : Nat} {O : List Nat} (h : (rblk B (ents L1 L1.length) (ents L2 L2.length) kb O ⟨P, false⟩).2.fail = true) : (restH B L1 L2 kf kb last O P).2.fail = true := rinf_fail h _
/-- .. too few bits are left for the block's end -/
theorem restH_need {B L1 L2 : List Nat} {kf kb last P : Nat} {O : List Nat} (h15 : ∀ x ∈ L1, x ≤ 15) (hk : 8 * B.length < kb + P) (hP : P ≤ 8 * B.length) (h : 1 ≤ L1.getD 256 0 → 8 * B.length < P + L1.getD 256 0) : (restH B L1 L2 kf kb last O P).2.fail = true := by
  refine restH_fail ?_
  cases hc : (rblk B (ents L1 L1.length) (ents L2 L2.length) kb O ⟨P, false⟩).2.fail
  · have := rblk_need h15 kb O P hk hP hc; have := h this.1; omega
  · rfl
section
variable {B L1 L2 : List Nat} {kf kb last P s : Nat} {O : List Nat} (h15 : ∀ x ∈ L1, x ≤ 15)
include h15
theorem restH_miss (hP : P ≤ 8 * B.length) (h : ∀ s, Hit L1 s (bitsv B P 15) → 8 * B.length < P + L1.getD s 0) : (restH B L1 L2 kf (kb + 1) last O P).2.fail = true := by
  refine restH_fail ?_; have hf := sym_miss h15 hP h; rw [rblk, if_neg (by simp), if_pos (.inl hf)]; exact hf
theorem restH_lit (h1 : Hit L1 s (bitsv B P 15)) (h2 : P + L1.getD s 0 ≤ 8 * B.length) (h3 : s < 256) : restH B L1 L2 kf (kb + 1) last O P = restH B L1 L2 kf kb last (O ++ [s]) (P + L1.getD s 0) := by
  unfold restH; rw [rblk, if_neg (by simp), sym_hit h15 h1 h2, if_neg (by simp; omega), if_pos h3]
theorem restH_end (h1 : Hit L1 256 (bitsv B P 15)) (h2 : P + L1.getD 256 0 ≤ 8 * B.length) : restH B L1 L2 kf (kb + 1) last O P = rinf B kf O last ⟨P + L1.getD 256 0, false⟩ := by
  unfold restH; rw [rblk, if_neg (by simp), sym_hit h15 h1 h2, if_pos (.inr rfl)]
theorem restH_bad (h1 : Hit L1 s (bitsv B P 15)) (h2 : P + L1.getD s 0 ≤ 8 * B.length) (h3 : 285 < s) : (restH B L1 L2 kf (kb + 1) last O P).2.fail = true := by
  refine restH_fail ?_; rw [rblk, if_neg (by simp), sym_hit h15 h1 h2, if_neg (by simp; omega), if_neg (show ¬ s < 256 by omega), if_pos h3]; rfl
/-- a match whose length is read -/
theorem restH_len (h1 : Hit L1 s (bitsv B P 15)) (h2 : P + L1.getD s 0 ≤ 8 * B.length) (h3 : ¬ s < 256) (h4 : s ≠ 256) (h5 : ¬ 285 < s) :
    ((8 * B.length < P + L1.getD s 0 + lenExtra s ∨ 8 * B.length < P + L1.getD s 0 ∨ (sym B (ents L2 L2.length) ⟨P + L1.getD s 0 + lenExtra s, false⟩).2.fail = true ∨ 29 < (sym B (ents L2 L2.length) ⟨P + L1.getD s 0 + lenExtra s, false⟩).1) → (restH B L1 L2 kf (kb + 1) last O P).2.fail = true) ∧
    (∀ d P2, P + L1.getD s 0 + lenExtra s ≤ 8 * B.length → sym B (ents L2 L2.length) ⟨P + L1.getD s 0 + lenExtra s, false⟩ = (d, ⟨P2, false⟩) → d ≤ 29 → P2 ≤ 8 * B.length →
      ((8 * B.length < P2 + distExtra d ∨ O.length < distBase d + bitsv B P2 (distExtra d)) → (restH B L1 L2 kf (kb + 1) last O P).2.fail = true) ∧
      (P2 + distExtra d ≤ 8 * B.length → distBase d + bitsv B P2 (distExtra d) ≤ O.length →
        restH B L1 L2 kf (kb + 1) last O P = restH B L1 L2 kf kb last (cpy (distBase d + bitsv B P2 (distExtra d)) (lenBase s + bitsv B (P + L1.getD s 0) (lenExtra s)) O) (P2 + distExtra d))) := by
  have hu : rblk B (ents L1 L1.length) (ents L2 L2.length) (kb + 1) O ⟨P, false⟩ = rblk B (ents L1 L1.length) (ents L2 L2.length) (kb + 1) O ⟨P, false⟩ := rfl
  conv at hu => rhs; rw [rblk, if_neg (by simp), sym_hit h15 h1 h2, if_neg (by simp; exact h4), if_neg h3, if_neg h5]
  constructor
  · intro h; refine restH_fail ?_; rw [hu]
    split
    · rfl
    · rename_i h29
      split
      · rfl
      · rename_i hn
        exfalso
        simp only at h29 hn; rcases Nat.lt_or_ge (8 * B.length) (P + L1.getD s 0 + lenExtra s) with hc | hc
        · have hf := rbits_short (B := B) (n := lenExtra s) hc h2; have hf2 := symF_fail (B := B) (l := ents L2 L2.length) 15 1 0 _ hf; change (sym B (ents L2 L2.length) _).2.fail = true at hf2; rw [rbits_fail hf2] at hn; exact hn (.inl hf2)
        · rw [rbits_eq hc] at h29 hn; simp only at h29 hn; rcases h with h | h | h | h
          · omega
          · omega
          · rw [rbits_fail h] at hn; exact hn (.inl h)
          · exact h29 h
  · intro d P2 hc hd hd29 hP2; have hu2 := hu; simp only at hu2; rw [rbits_eq hc] at hu2; simp only at hu2; rw [hd, if_neg (by simp; omega)] at hu2; simp only at hu2; constructor
    · intro h; refine restH_fail ?_; rw [hu2]
      split
      · rfl
      · rename_i hn
        exfalso
        rcases Nat.lt_or_ge (8 * B.length) (P2 + distExtra d) with hc2 | hc2
        · exact hn (.inl (rbits_short hc2 hP2))
        · rw [rbits_eq hc2] at hn; simp only at hn; exact hn (.inr (by omega))
    · intro hc2 hle; unfold restH; rw [hu2, rbits_eq hc2]; simp only; rw [if_neg (by simp; omega)]
end
end Go.Proofs.YtpbahgddoamhgaaGreatDoor.Pu
namespace Go.Proofs.YtpbahgddoamhgaaGreatDoor.Sx
open Go

/-- As Q; by a goto: what holds at that label -/
def jmp (J : Nat → Act → World → Prop) (Q : Exit → Act → World → Prop) : Exit → Act → World → Prop
  | .goto l, a, w => J l a w
  | e, a, w => Q e a w
theorem wp_scope_labels {P : Program} {a : Act} {w : World} {Q : Exit → Act → World → Prop} {c : Code} (J : Nat → Nat → Act → World → Prop)
    (first : c.wp P (jmp (fun l a w => ∃ m, J l m a w) Q) a w)
    (pass : ∀ l m a w, J l m a w → ∃ rest, findLabel c l = some rest ∧ rest.wp P (jmp (fun l' a' w' => ∃ m', m' < m ∧ J l' m' a' w') Q) a w) : (Code.scope c).wp P Q a w := by
  intro b k cs; have key : ∀ m l rest a w, J l m a w → findLabel c l = some rest → ∃ e a' w', Q e a' w' ∧ Arrives P (lone (b.at a (.code rest :: .inScope c :: k)) cs w) b k cs e a' w' := by
    intro m
    induction m using Nat.strongRecOn with
    | _ m ih =>
      intro l rest a w hJ hf; obtain ⟨rest', hf', hp⟩ := pass l m a w hJ; rw [hf] at hf'
      cases hf'
      obtain ⟨e, a₁, w₁, hq, harr⟩ := hp b (.inScope c :: k) cs
      cases e with
      | normal => exact ⟨.normal, a₁, w₁, hq, Steps.trans harr (.one step_inScope)⟩
      | exit id => exact ⟨.exit id, a₁, w₁, hq, fun k' hk => harr k' (by simp [exitTo, hk])⟩
      | goto l' =>
        obtain ⟨m', hlt, hJ'⟩ := hq; obtain ⟨rest2, hf2, _⟩ := pass l' m' a₁ w₁ hJ'; obtain ⟨e₂, a₂, w₂, hq₂, harr₂⟩ := ih m' hlt l' rest2 a₁ w₁ hJ' hf2; have hg : gotoIn l' (.inScope c :: k) = some (.code rest2 :: .inScope c :: k) := by simp [gotoIn, hf2]
        exact ⟨e₂, a₂, w₂, hq₂, .of_steps (harr _ hg) harr₂⟩
      | ret => exact ⟨_, a₁, w₁, hq, harr⟩
      | panic ch => exact ⟨_, a₁, w₁, hq, harr⟩
      | outgrown => exact ⟨_, a₁, w₁, hq, harr⟩
  obtain ⟨e, a₁, w₁, hq, harr⟩ := first b (.inScope c :: k) cs
  cases e with
  | normal => exact ⟨.normal, a₁, w₁, hq, .head step_scope (Steps.trans harr (.one step_inScope))⟩
  | exit id => exact ⟨.exit id, a₁, w₁, hq, fun k' hk => .head step_scope (harr k' (by simp [exitTo, hk]))⟩
  | goto l' =>
    obtain ⟨m', hJ'⟩ := hq; obtain ⟨rest2, hf2, _⟩ := pass l' m' a₁ w₁ hJ'; have hg : gotoIn l' (.inScope c :: k) = some (.code rest2 :: .inScope c :: k) := by simp [gotoIn, hf2]
    obtain ⟨e₂, a₂, w₂, hq₂, harr₂⟩ := key m' l' rest2 a₁ w₁ hJ' hf2; exact ⟨e₂, a₂, w₂, hq₂, .of_steps (.head step_scope (harr _ hg)) harr₂⟩
  | ret => exact ⟨_, a₁, w₁, hq, .of_steps (.one step_scope) harr⟩
  | panic ch => exact ⟨_, a₁, w₁, hq, .of_steps (.one step_scope) harr⟩
  | outgrown => exact ⟨_, a₁, w₁, hq, .of_steps (.one step_scope) harr⟩

def jm (J : Nat → El → Hl → Prop) (Q : Exit → El → Hl → Prop) : Exit → El → Hl → Prop
  | .goto l, E, H => J l E H
  | e, E, H => Q e E H
section
variable {P : Program} {n : Nat} {Q : Exit → El → Hl → Prop} {E : El} {H : Hl}
theorem Qf_jm {O : World} {F : Hl} {J : Nat → El → Hl → Prop} {e : Exit} {a : Act} {w : World} (h : Qf n O F (jm J Q) e a w) : jmp (fun l a w => ∃ E H, Ag n a E ∧ Hp O w (H ++ F) ∧ J l E H) (Qf n O F Q) e a w := by
  obtain ⟨h1, h2, E', H', ha', hp', hq'⟩ := h
  cases e with
  | goto l => exact ⟨E', H', ha', hp', hq'⟩
  | normal => exact ⟨h1, h2, E', H', ha', hp', hq'⟩
  | panic ch => exact ⟨h1, h2, E', H', ha', hp', hq'⟩
  | outgrown => exact ⟨h1, h2, E', H', ha', hp', hq'⟩
  | exit i => exact ⟨h1, h2, E', H', ha', hp', hq'⟩
  | ret => exact ⟨h1, h2, E', H', ha', hp', hq'⟩
theorem jmp_mono {J J' : Nat → Act → World → Prop} {Q' : Exit → Act → World → Prop} (h : ∀ l a w, J l a w → J' l a w) {e : Exit} {a : Act} {w : World} (hq : jmp J Q' e a w) : jmp J' Q' e a w := by
  cases e with
  | goto l => exact h l a w hq
  | normal => exact hq
  | panic ch => exact hq
  | outgrown => exact hq
  | exit i => exact hq
  | ret => exact hq
theorem W_labels {c : Code} (J : Nat → Nat → El → Hl → Prop) (first : W P n c (jm (fun l E H => ∃ m, J l m E H) Q) E H)
    (pass : ∀ l m E H, J l m E H → ∃ rest, findLabel c l = some rest ∧ W P n rest (jm (fun l' E' H' => ∃ m', m' < m ∧ J l' m' E' H') Q) E H) : W P n (.scope c) Q E H := fun O F a w ha hp => by
  refine wp_scope_labels (fun l m a w => ∃ E H, Ag n a E ∧ Hp O w (H ++ F) ∧ J l m E H) ?_ ?_
  · exact wp_mono (first O F a w ha hp) fun e a' w' hq => jmp_mono (fun l a w ⟨E, H, h1, h2, m, h3⟩ => ⟨m, E, H, h1, h2, h3⟩) (Qf_jm hq)
  · rintro l m a w ⟨E, H, h1, h2, h3⟩; obtain ⟨rest, hf, hw⟩ := pass l m E H h3; exact ⟨rest, hf, wp_mono (hw O F a w h1 h2) fun e a' w' hq => jmp_mono (fun l a w ⟨E, H, h1, h2, m', h3, h4⟩ => ⟨m', h3, E, H, h1, h2, h4⟩) (Qf_jm hq)⟩
theorem jm_n {J : Nat → El → Hl → Prop} (h : Q .normal E H) : jm J Q .normal E H := h
theorem jm_r {J : Nat → El → Hl → Prop} (h : Q .ret E H) : jm J Q .ret E H := h
theorem jm_x {J : Nat → El → Hl → Prop} {i : Nat} (h : Q (.exit i) E H) : jm J Q (.exit i) E H := h
theorem jm_g {J : Nat → El → Hl → Prop} {l : Nat} (h : J l E H) : jm J Q (.goto l) E H := h
theorem sq_g {K : El → Hl → Prop} {l : Nat} (h : Q (.goto l) E H) : sq K Q (.goto l) E H := h
theorem bl_g {id l : Nat} (h : Q (.goto l) E H) : bl id Q (.goto l) E H := h
end
end Go.Proofs.YtpbahgddoamhgaaGreatDoor.Sx
namespace Go.Proofs.YtpbahgddoamhgaaGreatDoor
open Go Sx Pu
set_option maxRecDepth 10000

/-- what does not change while a stream is read -/
structure Cx where
  p : Option Addr
  cap : Nat
  k : Nat
  fb : Nat
  hb : Nat
  bb : Nat
  cbk : Nat
  rBuf : Value
  S : List Nat
  B : List Nat
  o : Nat
  eof : Addr
  shb : Addr
  uex : Addr
  hdr : Addr
  dic : Addr
  chk : Addr
  D : Hl
structure Cx.Ok (x : Cx) : Prop where
  src : Src x.p x.S x.B x.o x.D
  gd : GD x.D x.eof x.shb x.uex x.hdr x.dic x.chk
  cap : x.S.length ≤ x.cap
/-- what does -/
structure FSt where
  ro : Int
  b : Value
  nb : Nat
  h1 : HD
  h2 : HD
  wr : Nat
  rd : Nat
  full : Bool
  b0 : Value
  b1 : Value
  b2 : Value
  b3 : Value
  step : Nat
  sst : Nat
  fin : Bool
  err : Value
  tr : Value
  hl : Value
  hd : Value
  cl : Nat
  cd : Nat
  i : Nat
  pr : Value
  Y : List Nat
  X : List Nat
  C : List Nat
  G : Hl
/-- the decompressor's cells -/
@[reducible] def FSt.c (s : FSt) (x : Cx) : List Value := fc (.iface 42 (.pointer (some ⟨x.k, 0, none⟩))) x.rBuf (.int .i64 s.ro) s.b (uV s.nb) s.h1 s.h2 (.pointer (some ⟨x.bb, 0, none⟩)) (.pointer (some ⟨x.cbk, 0, none⟩)) (winV x.hb) (iV s.wr) (iV s.rd) (.bool s.full) s.b0 s.b1 s.b2 s.b3 (fnV s.step) (iV s.sst) (.bool s.fin) s.err s.tr s.hl s.hd (iV s.cl) (iV s.cd)
@[reducible] def FSt.tail (s : FSt) (x : Cx) : Hl := (x.bb, intsO s.X 148) :: (x.cbk, intsO s.C 149) :: (s.G ++ x.D)
@[reducible] def FSt.H (s : FSt) (x : Cx) : Hl := (x.fb, fO (s.c x)) :: (x.k, srcO (.slice x.p x.S.length x.cap) s.i s.pr) :: (x.hb, winO s.Y) :: s.tail x

/-- a table lies where loc says -/
def TabAt (x : Cx) (s : FSt) (loc : Value) (min : Nat) (L : List Nat) : Prop :=
  ∃ tb tq ch lv mask tabs, loc = .pointer (some ⟨tb, tq, none⟩) ∧ Huf ch mask tabs L ∧ LK s.G lv tabs ∧ min ≤ 15 ∧ (∀ u, 1 ≤ L.getD u 0 → 1 ≤ min) ∧
    ((tb = x.fb ∧ tq = 5 ∧ s.h1.min = min ∧ s.h1.ch = ch ∧ s.h1.links = lv ∧ s.h1.mask = mask) ∨ (tb = x.fb ∧ tq = 520 ∧ s.h2.min = min ∧ s.h2.ch = ch ∧ s.h2.links = lv ∧ s.h2.mask = mask) ∨
      (tq = 0 ∧ ch.length = 512 ∧ ∃ ty fz r, AtH s.G tb (.cells (List.toArray (hcl [] min ch lv mask [])) ty fz) r))
/-- what holds at all times: O is all that was put out, Dl what was handed on, T what is about to be -/
structure Good (x : Cx) (O Dl T : List Nat) (s : FSt) : Prop where
  win : Win s.Y s.wr s.full O
  rw : s.rd ≤ s.wr
  hX : s.X.length = 316
  hC : s.C.length = 19
  z1 : s.h1.min = 0 → s.h1.ch = List.replicate 512 0
  k1 : s.h1.mask < 2 ^ 32
  z2 : s.h2.min = 0 → s.h2.ch = List.replicate 512 0
  k2 : s.h2.mask < 2 ^ 32
  tr : ∃ tp tc, s.tr = .slice tp T.length tc ∧ T.length ≤ tc ∧ DatV bV tp T [(x.hb, winO s.Y)]
  out : ∃ pend, O = Dl ++ T ++ pend ∧ pend.length = s.wr - s.rd
  ol : O.length ≤ 129 * (8 * x.B.length + 300) ∧ ∀ c ∈ O, c < 256
def finN (s : FSt) : Nat := if s.fin = true then 1 else 0
/-- the three ways to go on -/
def PhN (x : Cx) (R : List Nat × RS) (O : List Nat) (P : Nat) (s : FSt) : Prop :=
  s.step = 64 ∧ s.nb ≤ 7 ∧ (s.sst = 1 → s.cl = 0) ∧ O.length ≤ 129 * P ∧ ∃ kf, R = rinf x.B kf O 0 ⟨P, false⟩ ∧ 8 * x.B.length + 1 < kf + P
/-- the codes of the block under way -/
def Codes (x : Cx) (s : FSt) (L1 L2 : List Nat) (min : Nat) : Prop :=
  TabAt x s s.hl min L1 ∧ (1 ≤ L1.getD 256 0 → min = L1.getD 256 0) ∧ ((s.hd = .pointer none ∧ L2 = fixD) ∨ (∃ m2, TabAt x s s.hd m2 L2 ∧ ∀ u, 1 ≤ L2.getD u 0 → m2 ≤ L2.getD u 0))
def PhH (x : Cx) (R : List Nat × RS) (O : List Nat) (P : Nat) (s : FSt) : Prop :=
  ∃ L1 L2 min kf kb, Codes x s L1 L2 min ∧ s.nb ≤ min + 7 ∧ O.length ≤ 129 * P ∧ (s.sst = 1 → s.cl ≤ 258 ∧ O.length + s.cl ≤ 129 * P) ∧
    R = restH x.B L1 L2 kf kb (finN s) (if s.sst = 1 then cpy s.cd s.cl O else O) P ∧ 8 * x.B.length < kb + P ∧ 8 * x.B.length + 1 < kf + P
def PhC (x : Cx) (R : List Nat × RS) (O : List Nat) (P j : Nat) (s : FSt) : Prop :=
  s.nb = 0 ∧ s.cl ≤ 65535 ∧ O.length ≤ 129 * P ∧ ∃ kf, (j + s.cl ≤ x.B.length → R = rinf x.B kf (O ++ (x.B.drop j).take s.cl) (finN s) ⟨8 * (j + s.cl), false⟩) ∧ (x.B.length < j + s.cl → R.2.fail = true) ∧ 8 * x.B.length + 1 < kf + P
/-- where the reading stands -/
structure At (x : Cx) (O : List Nat) (P j : Nat) (s : FSt) : Prop where
  hi : s.i = x.o + j
  hP : P + s.nb = 8 * j
  hj : j ≤ x.B.length
  hb : s.b = wV (bitsv x.B P s.nb)
  he : s.err = .nilIface
  hw : s.wr < 32768
  ss : s.sst = 0 ∨ s.sst = 1 ∧ 0 < s.cd ∧ s.cd ≤ 32768 ∧ s.cd ≤ O.length
def mu (x : Cx) (P : Nat) (s : FSt) : Nat := 1000 * (8 * x.B.length + 8 - P) + (if s.step = 72 ∧ s.sst = 1 then s.cl else 0) + (if s.step = 77 then 1 else 0)
def Live (x : Cx) (R : List Nat × RS) (O : List Nat) (m : Nat) (s : FSt) : Prop :=
  ∃ P j, At x O P j s ∧ m = mu x P s ∧ (PhN x R O P s ∨ (s.step = 72 ∧ PhH x R O P s) ∨ (s.step = 77 ∧ PhC x R O P j s))
def Done (x : Cx) (R : List Nat × RS) (O : List Nat) (s : FSt) : Prop :=
  s.err = errV x.eof ∧ R.2.fail = false ∧ R.1 = O ∧ s.i = x.o + (ralign R.2).at_ / 8 ∧ (ralign R.2).at_ / 8 ≤ x.B.length ∧ s.rd = s.wr
def Bad (x : Cx) (R : List Nat × RS) (s : FSt) : Prop := ErrK x.uex s.err ∧ R.2.fail = true ∧ s.i ≤ x.S.length
/-- what a step leaves -/
def StepOut (x : Cx) (R : List Nat × RS) (Dl : List Nat) (m : Nat) (H' : Hl) : Prop :=
  ∃ s O T, H' = s.H x ∧ Good x O Dl T s ∧ ((∃ m', m' < m ∧ Live x R O m' s) ∨ Done x R O s ∨ Bad x R s)

theorem fc_hcl1 {r rBuf ro b nb : Value} {h1 h2 : HD} {bits cb hist wr rd full b0 b1 b2 b3 step sst fin err tr hl hd cl cd : Value} :
    fc r rBuf ro b nb h1 h2 bits cb hist wr rd full b0 b1 b2 b3 step sst fin err tr hl hd cl cd = hcl [r, rBuf, ro, b, nb] h1.min h1.ch h1.links h1.mask (h2.cells ++ ftl bits cb hist wr rd full b0 b1 b2 b3 step sst fin err tr hl hd cl cd) := rfl
theorem fc_hcl2 {r rBuf ro b nb : Value} {h1 h2 : HD} {bits cb hist wr rd full b0 b1 b2 b3 step sst fin err tr hl hd cl cd : Value} :
    fc r rBuf ro b nb h1 h2 bits cb hist wr rd full b0 b1 b2 b3 step sst fin err tr hl hd cl cd = hcl ([r, rBuf, ro, b, nb] ++ h1.cells) h2.min h2.ch h2.links h2.mask (ftl bits cb hist wr rd full b0 b1 b2 b3 step sst fin err tr hl hd cl cd) := by
  unfold fc hcl; rw [List.append_assoc]; rfl
theorem hmat_of {H : Hl} {tb q min mask : Nat} {ch : List Nat} {lv : Value} {A Z : List Value} {ty : TypeId} {fz : Nat × Nat} {r : Obj → Hl} (ha : AtH H tb (.cells (List.toArray (hcl A min ch lv mask Z)) ty fz) r) (hA : A.length = q) (hc : ch.length = 512) : HMat H tb q min ch lv mask :=
  ⟨_, ty, fz, r, ha, hcl_min hA, fun _i hi => hcl_ch hA hc hi, hcl_links hA hc, hcl_mask hA hc⟩
theorem DatV.win {Y : List Nat} {hb rd wr : Nat} {O Dl pend : List Nat} {full : Bool} (h : Win Y wr full O) (hO : O = Dl ++ pend) (hp : pend.length = wr - rd) (hr : rd ≤ wr) : DatV bV (pmv (some ⟨hb, 0, none⟩) 32768 rd 1) pend [(hb, winO Y)] := fun hne => by
  have hl : 0 < pend.length := by
    rcases Nat.eq_zero_or_pos pend.length with h0 | h0
    · exact absurd (List.length_eq_zero_iff.1 h0) hne
    · exact h0
  have hw := h.le; have hlen := h.len; refine ⟨hb, rd, _, 5, (0, 0), _, pmv_win (by omega), AtH.here, fun i hi => ?_⟩; have hOl : O.length = Dl.length + pend.length := by rw [hO]; simp
  have h1 := h.new (rd + i) (by omega); rw [show O.length - wr + (rd + i) = Dl.length + i by have := h.leO; omega, hO] at h1; rw [List.getD_eq_getElem?_getD (l := Dl ++ pend), List.getElem?_append_right (by omega), Nat.add_sub_cancel_left, List.getElem?_eq_getElem hi] at h1; rw [List.getElem?_map, List.getElem?_eq_getElem (by omega), Option.map_some]; rw [List.getD_eq_getElem?_getD, List.getElem?_eq_getElem (by omega)] at h1; exact congrArg (fun z => some (bV z)) h1
end Go.Proofs.YtpbahgddoamhgaaGreatDoor
namespace Go.Proofs.YtpbahgddoamhgaaGreatDoor
open Go.Proofs.Tryz
open Go Sx Pu
set_option maxRecDepth 10000

section
variable {x : Cx} {R : List Nat × RS} {O Dl : List Nat} {P j m : Nat}
/-- what is read of the source -/
theorem Src.piece {p : Option Addr} {S B : List Nat} {o : Nat} {D : Hl} (h : Src p S B o D) (j n : Nat) : (S.drop (o + j)).take n = (B.drop j).take n := by
  rw [← h.hB, List.drop_drop]
theorem GD.win {x : Cx} (hx : x.Ok) (a b : Nat × Obj) (c d : Nat × Obj) (G : Hl) : GD (a :: b :: c :: d :: (G ++ x.D)) x.eof x.shb x.uex x.hdr x.dic x.chk := ((((hx.gd.app G).cons _).cons _).cons _).cons _

theorem Src.mem {p : Option Addr} {S B : List Nat} {o : Nat} {D : Hl} (h : Src p S B o D) {c : Nat} (hc : c ∈ B) : c < 256 := by
  rw [← h.hB] at hc; exact h.hS _ (List.mem_of_mem_drop hc)
theorem copyData_spec {s : FSt} (hx : x.Ok) (hg : Good x O Dl [] s) (ha : At x O P j s) (hp : PhC x R O P j s) (hm : 1000 * (8 * x.B.length + 8 - P) + 1 ≤ m) :
    CallsL Tryz.prog 77 #[.pointer (some ⟨x.fb, 0, none⟩)] (s.H x) fun _ H' => StepOut x R Dl m H' := by
  obtain ⟨yro, yb, ynb, yh1, yh2, ywr, yrd, yfull, yb0, yb1, yb2, yb3, ystep, ysst, yfin, yerr, ytr, yhl, yhd, ycl, ycd, yi, ypr, yY, yX, yC, yG⟩ := s; obtain ⟨win, rw_, hX, hC, z1, k1, z2, k2, ⟨tp, tc, htr, _, _⟩, ⟨pend, hO, hpl⟩, ol⟩ := hg; obtain ⟨hi, hP, hj, hb, he, hw, hss⟩ := ha; obtain ⟨hnb, hcl, hol, kf, hR1, hR2, hkf⟩ := hp; dsimp only at *; subst hi hnb he htr; have hlen := hx.src.len; have hwin := win.le; have hYl := win.len; obtain ⟨n, hn⟩ : ∃ n, n = min (32768 - ywr) ycl := ⟨_, rfl⟩; have hG3 : GD ((x.hb, winO yY) :: (x.bb, intsO yX 148) :: (x.cbk, intsO yC 149) :: (yG ++ x.D)) x.eof x.shb x.uex x.hdr x.dic x.chk := (((hx.gd.app yG).cons _).cons _).cons _; have hG4 : ∀ o, GD ((x.hb, o) :: (x.bb, intsO yX 148) :: (x.cbk, intsO yC 149) :: (yG ++ x.D)) x.eof x.shb x.uex x.hdr x.dic x.chk := fun o => (((hx.gd.app yG).cons _).cons _).cons _
  have hsd : Dat x.p x.S ((x.hb, winO yY) :: (x.bb, intsO yX 148) :: (x.cbk, intsO yC 149) :: (yG ++ x.D)) := (((hx.src.hd.app yG).cons _).cons _).cons _; have hSl := hx.src.hl; have hpc := Src.piece hx.src j n; refine CallsL_of func77 rfl ntmps77 rfl ?_
  try dsimp only [initE, Nat.zero_add]
  refine W_seq fun K1 hK1 => ?_; refine W_region ?_; refine xm rfl rfl ?_; refine xn rfl rfl ?_; refine xp (v_fa (q := 1037) rfl underlying146 rfl rfl sizeOf142 rfl) rfl ?_; refine wc (e_c rfl rfl rfl call87) rfl rfl rfl (writeSlice_spec hwin) .all ?_; rintro _ _ ⟨rfl, rfl⟩; rw [pmv_win hw]; (try simp only [ap4]); refine xa rfl rfl ?_; refine WO_nil (sq_n (hK1 _ _ ?_)); refine W.keep [0,2] rfl ?_
  refine W_seq_mid (fun E H => ∃ dc, n ≤ dc ∧ Sub E [(0, .pointer (some ⟨x.fb, 0, none⟩)), (2, .slice (some ⟨x.hb, ywr, none⟩) n dc)] ∧ H = (x.fb, fO (fc (.iface 42 (.pointer (some ⟨x.k, 0, none⟩))) x.rBuf (.int .i64 yro) yb (uV 0) yh1 yh2 (.pointer (some ⟨x.bb, 0, none⟩)) (.pointer (some ⟨x.cbk, 0, none⟩)) (winV x.hb) (iV ywr) (iV yrd) (.bool yfull) yb0 yb1 yb2 yb3 (fnV ystep) (iV ysst) (.bool yfin) .nilIface (.slice tp 0 tc) yhl yhd (iV ycl) (iV ycd))) :: (x.k, srcO (.slice x.p x.S.length x.cap) (x.o + j) ypr) :: (x.hb, winO yY) :: (x.bb, intsO yX 148) :: (x.cbk, intsO yC 149) :: (yG ++ x.D)) ?_ ?_
  · refine W_seq fun K3 hK3 => ?_; refine W_region ?_; refine xm rfl rfl ?_; refine xp (v_len rfl underlying22 rfl) rfl ?_; refine xm rfl rfl ?_; refine xn rfl rfl ?_; refine xp (v_fa (q := 1052) rfl underlying146 rfl rfl sizeOf3 rfl) rfl ?_; refine xv (ld rfl rfl isAgg3) rfl ?_; refine xp (n_gt rfl rfl rfl) rfl ?_; refine WO_nil (sq_n (hK3 _ _ ?_)); refine W.keep [0,2,15] rfl ?_; refine W_cond rfl (fun hc0 => ?_) (fun hc0 => ?_)
    · replace hc0 := of_decide_eq_true hc0; refine W_region ?_; refine xm rfl rfl ?_; refine xm rfl rfl ?_; refine xn rfl rfl ?_; refine xp (v_fa (q := 1052) rfl underlying146 rfl rfl sizeOf3 rfl) rfl ?_; refine xv (ld rfl rfl isAgg3) rfl ?_; refine xp (v_slp rfl underlying22 sizeOf5 rfl .none (.some rfl) .none (by omega) (by omega) (by omega) (by decide)) rfl ?_; refine xa rfl rfl ?_; refine WO_nil (sq_n (?_)); first
      | (have hq : ycl < 32768 - ywr := hc0
         have e1 : n = ycl := by omega
         rw [e1, pmv_zero]; exact ⟨32768 - ywr, by omega, ⟨rfl, rfl, trivial⟩, rfl⟩)
      | (have e1 : n = 32768 - ywr := by omega
         rw [e1]; exact ⟨32768 - ywr, Nat.le_refl _, ⟨rfl, rfl, trivial⟩, rfl⟩)
    · replace hc0 := of_decide_eq_false hc0; refine W_skip (sq_n (?_)); first
      | (have hq : ycl < 32768 - ywr := hc0
         have e1 : n = ycl := by omega
         rw [e1, pmv_zero]; exact ⟨32768 - ywr, by omega, ⟨rfl, rfl, trivial⟩, rfl⟩)
      | (have e1 : n = 32768 - ywr := by omega
         rw [e1]; exact ⟨32768 - ywr, Nat.le_refl _, ⟨rfl, rfl, trivial⟩, rfl⟩)
  · rintro E H ⟨dc, hdc, hE, rfl⟩; refine W.env hE ?_; refine W_seq_mid (fun E H => ∃ cnt e pr2 Y2, Sub E [(0, .pointer (some ⟨x.fb, 0, none⟩)), (3, iV cnt), (4, e)] ∧ cnt ≤ n ∧ cnt ≤ x.B.length - j ∧ Win Y2 (ywr + cnt) yfull (O ++ (x.B.drop j).take cnt) ∧ ((cnt = n ∧ e = .nilIface) ∨ (cnt < n ∧ cnt = x.B.length - j ∧ (e = errV x.eof ∨ e = errV x.uex))) ∧ H = (x.fb, fO (fc (.iface 42 (.pointer (some ⟨x.k, 0, none⟩))) x.rBuf (.int .i64 yro) yb (uV 0) yh1 yh2 (.pointer (some ⟨x.bb, 0, none⟩)) (.pointer (some ⟨x.cbk, 0, none⟩)) (winV x.hb) (iV ywr) (iV yrd) (.bool yfull) yb0 yb1 yb2 yb3 (fnV ystep) (iV ysst) (.bool yfin) .nilIface (.slice tp 0 tc) yhl yhd (iV ycl) (iV ycd))) :: (x.k, srcO (.slice x.p x.S.length x.cap) (x.o + j + cnt) pr2) :: (x.hb, winO Y2) :: (x.bb, intsO yX 148) :: (x.cbk, intsO yC 149) :: (yG ++ x.D)) ?_ ?_
    · by_cases hn0 : n = 0
      · refine W_region ?_; refine xm rfl rfl ?_; refine xn rfl rfl ?_; refine xp (v_fa (q := 0) rfl underlying146 rfl rfl sizeOf82 rfl) rfl ?_; refine xv (ld rfl rfl isAgg82) rfl ?_; refine xm rfl rfl ?_; rw [hn0]; refine wc (e_c rfl rfl rfl call51) rfl rfl rfl (readFull_none) .nil ?_; rintro _ _ ⟨rfl, rfl⟩; (try simp only [ap4]); refine xm rfl rfl ?_; refine xp (v_ex rfl rfl rfl) rfl ?_; refine xp (v_ex rfl rfl rfl) rfl ?_; refine xa rfl rfl ?_; refine xa rfl rfl ?_; refine WO_nil (sq_n (?_)); first
        | (have hq := hn0; have hq2 : n = 0 := hn0; exact ⟨0, _, _, _, ⟨rfl, rfl, rfl, trivial⟩, by omega, by omega, (by simpa using win), .inl ⟨by omega, rfl⟩, rfl⟩)
        | (have hq := hle; exact ⟨n, _, _, _, ⟨rfl, rfl, rfl, trivial⟩, by omega, by omega, (by have := win.write (ys := (x.B.drop j).take n) (by simp; omega); rwa [show ((x.B.drop j).take n).length = n by simp; omega] at this), .inl ⟨rfl, rfl⟩, rfl⟩)
        | (have e2 : (x.B.drop j).take (x.S.length - (x.o + j)) = (x.B.drop j).take n := by rw [List.take_of_length_le (by simp; omega), List.take_of_length_le (by simp; omega)]
           refine ⟨x.S.length - (x.o + j), _, _, _, ⟨rfl, rfl, rfl, trivial⟩, by omega, by omega, (by rw [e2]; have := win.write (ys := (x.B.drop j).take n) (by simp; omega); rwa [show ((x.B.drop j).take n).length = x.S.length - (x.o + j) by simp; omega] at this), .inr ⟨by omega, by omega, ?_⟩, (by rw [show x.o + j + (x.S.length - (x.o + j)) = x.S.length by omega])⟩
           split
           · exact .inl rfl
           · exact .inr rfl)
      · refine W_region ?_; refine xm rfl rfl ?_; refine xn rfl rfl ?_; refine xp (v_fa (q := 0) rfl underlying146 rfl rfl sizeOf82 rfl) rfl ?_; refine xv (ld rfl rfl isAgg82) rfl ?_; refine xm rfl rfl ?_; refine wc (e_c rfl rfl rfl call51) rfl rfl rfl (readFull_spec (k := x.k) (cap := x.cap) (pr := ypr) (dcap := dc) hG3 hsd (by omega) (by omega) hx.cap AtH.here (by omega) hdc (by omega) (by rw [List.length_map]; omega) (hG4 _)) (.skip .all) ?_; rintro _ _ ⟨pr2, ⟨hle, rfl, rfl⟩ | ⟨hlt, rfl, rfl⟩⟩
        all_goals ((try simp only [ap4]))
        · rw [hpc, put_map]; refine xm rfl rfl ?_; refine xp (v_ex rfl rfl rfl) rfl ?_; refine xp (v_ex rfl rfl rfl) rfl ?_; refine xa rfl rfl ?_; refine xa rfl rfl ?_; refine WO_nil (sq_n (?_)); first
          | (have hq := hn0; have hq2 : n = 0 := hn0; exact ⟨0, _, _, _, ⟨rfl, rfl, rfl, trivial⟩, by omega, by omega, (by simpa using win), .inl ⟨by omega, rfl⟩, rfl⟩)
          | (have hq := hle; exact ⟨n, _, _, _, ⟨rfl, rfl, rfl, trivial⟩, by omega, by omega, (by have := win.write (ys := (x.B.drop j).take n) (by simp; omega); rwa [show ((x.B.drop j).take n).length = n by simp; omega] at this), .inl ⟨rfl, rfl⟩, rfl⟩)
          | (have e2 : (x.B.drop j).take (x.S.length - (x.o + j)) = (x.B.drop j).take n := by rw [List.take_of_length_le (by simp; omega), List.take_of_length_le (by simp; omega)]
             refine ⟨x.S.length - (x.o + j), _, _, _, ⟨rfl, rfl, rfl, trivial⟩, by omega, by omega, (by rw [e2]; have := win.write (ys := (x.B.drop j).take n) (by simp; omega); rwa [show ((x.B.drop j).take n).length = x.S.length - (x.o + j) by simp; omega] at this), .inr ⟨by omega, by omega, ?_⟩, (by rw [show x.o + j + (x.S.length - (x.o + j)) = x.S.length by omega])⟩
             split
             · exact .inl rfl
             · exact .inr rfl)
        · rw [hpc, put_map]; refine xm rfl rfl ?_; refine xp (v_ex rfl rfl rfl) rfl ?_; refine xp (v_ex rfl rfl rfl) rfl ?_; refine xa rfl rfl ?_; refine xa rfl rfl ?_; refine WO_nil (sq_n (?_)); first
          | (have hq := hn0; have hq2 : n = 0 := hn0; exact ⟨0, _, _, _, ⟨rfl, rfl, rfl, trivial⟩, by omega, by omega, (by simpa using win), .inl ⟨by omega, rfl⟩, rfl⟩)
          | (have hq := hle; exact ⟨n, _, _, _, ⟨rfl, rfl, rfl, trivial⟩, by omega, by omega, (by have := win.write (ys := (x.B.drop j).take n) (by simp; omega); rwa [show ((x.B.drop j).take n).length = n by simp; omega] at this), .inl ⟨rfl, rfl⟩, rfl⟩)
          | (have e2 : (x.B.drop j).take (x.S.length - (x.o + j)) = (x.B.drop j).take n := by rw [List.take_of_length_le (by simp; omega), List.take_of_length_le (by simp; omega)]
             refine ⟨x.S.length - (x.o + j), _, _, _, ⟨rfl, rfl, rfl, trivial⟩, by omega, by omega, (by rw [e2]; have := win.write (ys := (x.B.drop j).take n) (by simp; omega); rwa [show ((x.B.drop j).take n).length = x.S.length - (x.o + j) by simp; omega] at this), .inr ⟨by omega, by omega, ?_⟩, (by rw [show x.o + j + (x.S.length - (x.o + j)) = x.S.length by omega])⟩
             split
             · exact .inl rfl
             · exact .inr rfl)
    · rintro E H ⟨cnt, e, pr2, Y2, hE, hcn, hcB, win2, hce, rfl⟩; refine W.env hE ?_; have hwin2 := win2.le; have htl : ((x.B.drop j).take cnt).length = cnt := by rw [List.length_take, List.length_drop]; omega
      have hO2 : O ++ (x.B.drop j).take cnt = Dl ++ (pend ++ (x.B.drop j).take cnt) := by rw [hO]; simp
      have hpl2 : (pend ++ (x.B.drop j).take cnt).length = ywr + cnt - yrd := by rw [List.length_append, hpl, htl]; omega
      have hol2 : (O ++ (x.B.drop j).take cnt).length = O.length + cnt := by rw [List.length_append, htl]
      have hol3 : (O ++ (x.B.drop j).take cnt).length ≤ 129 * (8 * x.B.length + 300) ∧ ∀ c ∈ O ++ (x.B.drop j).take cnt, c < 256 := ⟨by omega, fun c hc => (List.mem_append.1 hc).elim (ol.2 c) fun h => Src.mem hx.src (List.mem_of_mem_drop (List.mem_of_mem_take h))⟩; have hss2 : ysst = 0 ∨ ysst = 1 ∧ 0 < ycd ∧ ycd ≤ 32768 ∧ ycd ≤ (O ++ (x.B.drop j).take cnt).length := by omega
      refine W_seq fun K5 hK5 => ?_; refine W_region ?_; refine xm rfl rfl ?_; refine xn rfl rfl ?_; refine xp (v_fa (q := 2) rfl underlying146 rfl rfl sizeOf2 rfl) rfl ?_; refine xv (ld rfl rfl isAgg2) rfl ?_; refine xm rfl rfl ?_; refine xp (v_add rfl rfl rfl rfl) rfl ?_; refine xn rfl rfl ?_; refine xp (v_fa (q := 2) rfl underlying146 rfl rfl sizeOf2 rfl) rfl ?_; refine wst rfl rfl rfl sizeOf2 rfl rfl rfl ?_; refine WO_nil (sq_n (hK5 _ _ ?_)); refine W.keep [0,3,4] rfl ?_; refine W_seq fun K6 hK6 => ?_; refine W_region ?_; refine xm rfl rfl ?_; refine xn rfl rfl ?_; refine xp (v_fa (q := 1052) rfl underlying146 rfl rfl sizeOf3 rfl) rfl ?_; refine xv (ld rfl rfl isAgg3) rfl ?_; refine xm rfl rfl ?_; refine xp (n_sub rfl rfl rfl kI (by omega) (by omega)) rfl ?_; refine xn rfl rfl ?_; refine xp (v_fa (q := 1052) rfl underlying146 rfl rfl sizeOf3 rfl) rfl ?_
      refine wst rfl rfl rfl sizeOf3 rfl rfl rfl ?_; refine WO_nil (sq_n (hK6 _ _ ?_)); refine W.keep [0,3,4] rfl ?_; refine W_seq fun K7 hK7 => ?_; refine W_region ?_; refine xm rfl rfl ?_; refine xn rfl rfl ?_; refine xp (v_fa (q := 1037) rfl underlying146 rfl rfl sizeOf142 rfl) rfl ?_; refine xm rfl rfl ?_; refine wc (e_c rfl rfl rfl call88) rfl rfl rfl (writeMark_spec hwin2) .all ?_; rintro _ _ rfl; (try simp only [ap4]); refine WO_nil (sq_n (hK7 _ _ ?_)); refine W.keep [0,4] rfl ?_; refine W_seq fun K8 hK8 => ?_; refine W_seq fun K9 hK9 => ?_; rcases hce with ⟨rfl, rfl⟩ | ⟨hc1, hc2, hc3⟩
      · refine W_region ?_; refine xm rfl rfl ?_; refine xp (v_nen rfl rfl) rfl ?_; refine WO_nil (sq_n (hK9 _ _ ?_)); refine W_cond_f rfl ?_; refine W_skip (sq_n (hK8 _ _ ?_)); refine W.keep [0] rfl ?_; refine W_seq fun K10 hK10 => ?_; refine W_seq fun K11 hK11 => ?_; by_cases h32 : ywr + cnt = 32768
        · refine W_region ?_; refine xm rfl rfl ?_; refine xn rfl rfl ?_; refine xp (v_fa (q := 1037) rfl underlying146 rfl rfl sizeOf142 rfl) rfl ?_; refine wc (e_c rfl rfl rfl call81) rfl rfl rfl (availWrite_spec hwin2) .all ?_; rintro _ _ ⟨rfl, rfl⟩; (try simp only [ap4]); refine xp (v_eq rfl rfl rfl (dT (by omega))) rfl ?_; refine xm rfl rfl ?_; refine xno rfl ?_; refine xno rfl ?_; refine xno rfl ?_; refine xno rfl ?_; refine xno rfl ?_; refine xp (v_pt rfl rfl rfl) rfl ?_; refine WO_nil (sq_n (hK11 _ _ ?_)); refine W.keep [0,70] rfl ?_; refine W_cond_t rfl ?_; refine W_seq fun K12 hK12 => ?_; refine W_region ?_; refine xm rfl rfl ?_; refine xm rfl rfl ?_; refine xn rfl rfl ?_; refine xp (v_fa (q := 1037) rfl underlying146 rfl rfl sizeOf142 rfl) rfl ?_; refine wc (e_c rfl rfl rfl call75) rfl rfl rfl (readFlush_spec (by omega) hwin2) .all ?_; rintro _ _ ⟨rfl, rfl⟩
          (try simp only [ap4]); refine xn rfl rfl ?_; refine xp (v_fa (q := 1049) rfl underlying146 rfl rfl sizeOf22 rfl) rfl ?_; refine wst rfl rfl rfl sizeOf22 rfl rfl rfl ?_; refine WO_nil (sq_n (hK12 _ _ ?_)); refine W.keep [0] rfl ?_; refine W_seq fun K13 hK13 => ?_; refine W_region ?_; refine xm rfl rfl ?_; refine xn rfl rfl ?_; refine xp (v_fa (q := 1045) rfl underlying146 rfl rfl sizeOf143 rfl) rfl ?_; refine wst rfl rfl rfl sizeOf143 rfl rfl rfl ?_; refine WO_nil (sq_n (hK13 _ _ ?_)); refine W.keep [0] rfl ?_; refine W_ret (sq_r (ret_of (v := _) rfl ?_)); rw [if_pos h32, if_pos h32]; have w3 : Win Y2 0 true (O ++ (x.B.drop j).take cnt) := by rw [h32] at win2; exact win2.wrap
          have hd3 := DatV.win (hb := x.hb) win2 hO2 hpl2 (by omega); refine ⟨(FSt.mk (_) yb (0) yh1 yh2 (0) (0) (true) yb0 yb1 yb2 yb3 (77) ysst yfin (.nilIface) (flV x.hb (ywr + cnt) yrd) yhl yhd (ycl - cnt) ycd (x.o + j + cnt) (pr2) (Y2) yX yC yG), _, pend ++ (x.B.drop j).take cnt, rfl, ⟨w3, Nat.le_refl _, hX, hC, z1, k1, z2, k2, ⟨_, 32768 - yrd, (by rw [hpl2]), by omega, hd3⟩, ⟨[], (by rw [List.append_nil]; exact hO2), rfl⟩, hol3⟩, .inl ⟨_, ?_, P + 8 * cnt, j + cnt, ⟨by simp only; omega, by simp only; omega, by omega, hb, rfl, by simp, hss2⟩, rfl, .inr (.inr ⟨rfl, rfl, by simp only; omega, by omega, kf, ?_, ?_, by omega⟩)⟩⟩
          · simp only [mu]; rw [if_neg (by simp), if_pos trivial]; omega
          · intro h; simp only at h ⊢; rw [hR1 (by omega)]; have e1 : (x.B.drop j).take ycl = (x.B.drop j).take cnt ++ (x.B.drop (j + cnt)).take (ycl - cnt) := by
              have := List.take_add (l := x.B.drop j) (i := cnt) (j := ycl - cnt); rwa [Nat.add_sub_cancel' (by omega), List.drop_drop] at this
            rw [e1, ← List.append_assoc, show j + cnt + (ycl - cnt) = j + ycl by omega]; rfl
          · intro h; exact hR2 (by simp only at h; omega)
        · refine W_region ?_; refine xm rfl rfl ?_; refine xn rfl rfl ?_; refine xp (v_fa (q := 1037) rfl underlying146 rfl rfl sizeOf142 rfl) rfl ?_; refine wc (e_c rfl rfl rfl call81) rfl rfl rfl (availWrite_spec hwin2) .all ?_; rintro _ _ ⟨rfl, rfl⟩; (try simp only [ap4]); refine xp (v_eq rfl rfl rfl (dF (by omega))) rfl ?_; refine xm rfl rfl ?_; refine xm rfl rfl ?_; refine xn rfl rfl ?_; refine xp (v_fa (q := 1052) rfl underlying146 rfl rfl sizeOf3 rfl) rfl ?_; refine xv (ld rfl rfl isAgg3) rfl ?_; refine xp (v_gt rfl rfl rfl (dF (by omega))) rfl ?_; refine xp (v_pf rfl rfl rfl) rfl ?_; refine WO_nil (sq_n (hK11 _ _ ?_)); refine W.keep [0,70] rfl ?_; refine W_cond_f rfl ?_; refine W_skip (sq_n (hK10 _ _ ?_)); have hcy : cnt = ycl := by omega
          have hR3 := hR1 (by omega); rw [← hcy] at hR3; refine W_region ?_; refine xm rfl rfl ?_; refine wc (e_c rfl rfl rfl call76) rfl rfl rfl (finishBlock_spec (((hG4 _).cons _)) (by omega) hwin2) .all ?_; intro _ H2 hfb; (try simp only [ap4]); refine WO_nil (end_of (v := _) rfl ?_); rcases hfb with ⟨rfl, rfl⟩ | ⟨rfl, hrd, rfl⟩ | ⟨rfl, hrd, rfl⟩
          · refine ⟨(FSt.mk (_) yb (0) yh1 yh2 (ywr + cnt) yrd yfull yb0 yb1 yb2 yb3 (64) ysst (false) (.nilIface) (.slice tp 0 tc) yhl yhd (ycl - cnt) ycd (x.o + j + cnt) (pr2) (Y2) yX yC yG), _, [], rfl, ⟨win2, (by show yrd ≤ ywr + cnt; omega), hX, hC, z1, k1, z2, k2, ⟨tp, tc, rfl, Nat.zero_le _, DatV.nil⟩, ⟨_, (by rw [List.append_nil]; exact hO2), hpl2⟩, hol3⟩, .inl ⟨_, ?_, P + 8 * cnt, j + cnt, ⟨by simp only; omega, by simp only; omega, by omega, hb, rfl, by simp only; omega, hss2⟩, rfl, .inl ⟨rfl, by simp, (by intro _; simp only; omega), by omega, kf, ?_, by omega⟩⟩⟩
            · simp only [mu]; rw [if_neg (by simp), if_neg (by simp)]; omega
            · rw [hR3, show P + 8 * cnt = 8 * (j + cnt) by omega]; rfl
          · have hR4 : R = (O ++ (x.B.drop j).take cnt, ⟨8 * (j + cnt), false⟩) := by rw [hR3, rinf_end (.inl (by simp [finN]))]
            have hal : (ralign ⟨8 * (j + cnt), false⟩).at_ / 8 = j + cnt := by show (8 * (j + cnt) + 7) / 8 * 8 / 8 = _; omega
            exact ⟨(FSt.mk (_) yb (0) yh1 yh2 (ywr + cnt) yrd yfull yb0 yb1 yb2 yb3 (64) ysst (true) (errV x.eof) (.slice tp 0 tc) yhl yhd (ycl - cnt) ycd (x.o + j + cnt) (pr2) (Y2) yX yC yG), _, [], rfl, ⟨win2, (by show yrd ≤ ywr + cnt; omega), hX, hC, z1, k1, z2, k2, ⟨tp, tc, rfl, Nat.zero_le _, DatV.nil⟩, ⟨_, (by rw [List.append_nil]; exact hO2), hpl2⟩, hol3⟩, .inr (.inl ⟨rfl, by rw [hR4], by rw [hR4], by rw [hR4, hal]; show x.o + j + cnt = _; omega, by rw [hR4, hal]; omega, hrd⟩)⟩
          · rw [if_neg h32, if_neg h32]; have hR4 : R = (O ++ (x.B.drop j).take cnt, ⟨8 * (j + cnt), false⟩) := by rw [hR3, rinf_end (.inl (by simp [finN]))]
            have hal : (ralign ⟨8 * (j + cnt), false⟩).at_ / 8 = j + cnt := by show (8 * (j + cnt) + 7) / 8 * 8 / 8 = _; omega
            have hd3 := DatV.win (hb := x.hb) win2 hO2 hpl2 (by omega); exact ⟨(FSt.mk (_) yb (0) yh1 yh2 (ywr + cnt) (ywr + cnt) yfull yb0 yb1 yb2 yb3 (64) ysst (true) (errV x.eof) (flV x.hb (ywr + cnt) yrd) yhl yhd (ycl - cnt) ycd (x.o + j + cnt) (pr2) (Y2) yX yC yG), _, pend ++ (x.B.drop j).take cnt, rfl, ⟨win2, Nat.le_refl _, hX, hC, z1, k1, z2, k2, ⟨_, 32768 - yrd, (by rw [hpl2]), by omega, hd3⟩, ⟨[], (by rw [List.append_nil]; exact hO2), (Nat.sub_self _).symm⟩, hol3⟩, .inr (.inl ⟨rfl, by rw [hR4], by rw [hR4], by rw [hR4, hal]; show x.o + j + cnt = _; omega, by rw [hR4, hal]; omega, rfl⟩)⟩
      · have hif : isIf e = true := by rcases hc3 with rfl | rfl <;> rfl
        refine W_region ?_; refine xm rfl rfl ?_; refine xp (v_nei rfl rfl hif) rfl ?_; refine WO_nil (sq_n (hK9 _ _ ?_)); refine W_cond_t rfl ?_; refine W_seq fun K14 hK14 => ?_; refine W_region ?_; refine xm rfl rfl ?_; refine xm rfl rfl ?_; refine wc (e_c rfl rfl rfl call74) rfl rfl rfl ((show CallsL Tryz.prog 74 #[e] _ (fun v H' => v = errV x.uex ∧ H' = _) from by rcases hc3 with rfl | rfl; exact noEOF_eof (((hG4 _).cons _).cons _); exact noEOF_uex (((hG4 _).cons _).cons _))) .all ?_; rintro _ _ ⟨rfl, rfl⟩; (try simp only [ap4]); refine xn rfl rfl ?_; refine xp (v_fa (q := 1048) rfl underlying146 rfl rfl sizeOf47 rfl) rfl ?_; refine wst rfl rfl rfl sizeOf47 rfl rfl rfl ?_; refine WO_nil (sq_n (hK14 _ _ ?_)); refine W.keep [0] rfl ?_; refine W_ret (sq_r (ret_of (v := _) rfl ?_))
        exact ⟨(FSt.mk (_) yb (0) yh1 yh2 (ywr + cnt) yrd yfull yb0 yb1 yb2 yb3 ystep ysst yfin (errV x.uex) (.slice tp 0 tc) yhl yhd (ycl - cnt) ycd (x.o + j + cnt) (pr2) (Y2) yX yC yG), _, [], rfl, ⟨win2, (by show yrd ≤ ywr + cnt; omega), hX, hC, z1, k1, z2, k2, ⟨tp, tc, rfl, Nat.zero_le _, DatV.nil⟩, ⟨_, (by rw [List.append_nil]; exact hO2), hpl2⟩, hol3⟩, .inr (.inr ⟨.inl rfl, hR2 (by omega), by simp only; omega⟩)⟩
end
end Go.Proofs.YtpbahgddoamhgaaGreatDoor
namespace Go.Proofs.YtpbahgddoamhgaaGreatDoor
open Go Sx Pu
set_option maxRecDepth 10000

/-- the stored block's two numbers, as bytes -/
theorem rstored_bytes {B O : List Nat} {P j : Nat} (hB : ∀ i, B.getD i 0 < 256) (hP : (P + 7) / 8 = j) (hj : j ≤ B.length) :
    (B.length < j + 4 → (rstored B O ⟨P, false⟩).2.fail = true) ∧
    (j + 4 ≤ B.length →
      ((B.getD j 0 + B.getD (j + 1) 0 * 256) + (B.getD (j + 2) 0 + B.getD (j + 3) 0 * 256) ≠ 65535 → (rstored B O ⟨P, false⟩).2.fail = true) ∧
      ((B.getD j 0 + B.getD (j + 1) 0 * 256) + (B.getD (j + 2) 0 + B.getD (j + 3) 0 * 256) = 65535 →
        (j + 4 + (B.getD j 0 + B.getD (j + 1) 0 * 256) ≤ B.length → rstored B O ⟨P, false⟩ = (O ++ (B.drop (j + 4)).take (B.getD j 0 + B.getD (j + 1) 0 * 256), ⟨8 * (j + 4 + (B.getD j 0 + B.getD (j + 1) 0 * 256)), false⟩)) ∧
        (B.length < j + 4 + (B.getD j 0 + B.getD (j + 1) 0 * 256) → (rstored B O ⟨P, false⟩).2.fail = true))) := by
  have ha : ralign ⟨P, false⟩ = ⟨8 * j, false⟩ := by
    show RS.mk ((P + 7) / 8 * 8) false = _; rw [hP, Nat.mul_comm]
  have two : ∀ i, bitsv B (8 * i) 16 = B.getD i 0 + B.getD (i + 1) 0 * 256 := fun i => by
    rw [show (16 : Nat) = 8 + 8 from rfl, bitsv_add, bitsv_byte B i (hB i), show 8 * i + 8 = 8 * (i + 1) by omega, bitsv_byte B (i + 1) (hB (i + 1))]
  have b0 := hB j; have b1 := hB (j + 1); have b2 := hB (j + 2); have b3 := hB (j + 3); constructor
  · intro h; have hc : (rbits B 16 (rbits B 16 ⟨8 * j, false⟩).2).2.fail = true := by
      rcases Nat.lt_or_ge (8 * B.length) (8 * j + 16) with h1 | h1
      · have := rbits_short (B := B) (P := 8 * j) (n := 16) h1 (by omega); rw [rbits_fail this]; exact this
      · rw [rbits_eq h1]; exact rbits_short (by omega) (by omega)
    unfold rstored; rw [ha, if_pos (.inl hc)]; rfl
  · intro h; have e1 := rbits_eq (B := B) (P := 8 * j) (n := 16) (by omega); have e2 := rbits_eq (B := B) (P := 8 * j + 16) (n := 16) (by omega); have t1 := two j; have t2 := two (j + 2); rw [show 8 * (j + 2) = 8 * j + 16 by omega, show j + 2 + 1 = j + 3 from rfl] at t2; generalize hn : B.getD j 0 + B.getD (j + 1) 0 * 256 = n at *; generalize hnn : B.getD (j + 2) 0 + B.getD (j + 3) 0 * 256 = nn at *; have n1 : n < 65536 := by omega
    have n2 : nn < 65536 := by omega
    have hx : n ^^^ nn = 65535 ↔ n + nn = 65535 := by
      have hor : ∀ a : Nat, a < 65536 → a ^^^ 65535 = 65535 - a := by
        intro a ha; have := Nat.xor_lt_two_pow (n := 16) ha (show 65535 < 2 ^ 16 by decide); have h1 : a ^^^ 65535 = 65535 - a := by
          apply Nat.eq_of_testBit_eq; intro i; rw [Nat.testBit_xor, show 65535 - a = 2 ^ 16 - (a + 1) by omega, Nat.testBit_two_pow_sub_succ ha, show (65535 : Nat) = 2 ^ 16 - 1 from rfl, Nat.testBit_two_pow_sub_one]; by_cases hi : i < 16
          · simp [hi]
          · have : a.testBit i = false := Nat.testBit_lt_two_pow (Nat.lt_of_lt_of_le ha (show 2 ^ 16 ≤ 2 ^ i from Nat.pow_le_pow_right (n := 2) (by decide) (by omega))); simp [hi, this]
        exact h1
      constructor
      · intro h; have : nn = n ^^^ 65535 := by rw [← h, ← Nat.xor_assoc, Nat.xor_self, Nat.zero_xor]
        rw [hor n n1] at this; omega
      · intro h; have : nn = n ^^^ 65535 := by rw [hor n n1]; omega
        rw [this, ← Nat.xor_assoc, Nat.xor_self, Nat.zero_xor]
    have hu : ∀ Z : Prop, Z → True := fun _ _ => trivial; unfold rstored; rw [ha, e1]; simp only [t1]; rw [e2]; simp only [t2]; rw [show (8 * j + 16 + 16) / 8 = j + 4 by omega]; refine ⟨fun h1 => ?_, fun h1 => ⟨fun h2 => ?_, fun h2 => ?_⟩⟩
    · rw [if_pos (.inr (.inl (fun e => h1 (hx.1 e))))]; rfl
    · rw [if_neg (by rintro (h3 | h3 | h3); cases h3; exact h3 (hx.2 h1); omega)]; congr 2
      · rw [List.drop_take, Nat.add_sub_cancel_left]
      · congr 1; omega
    · rw [if_pos (.inr (.inr (by omega)))]; rfl
section
variable {xr xrBuf xro xb xnb xbits xcb xhist xwr xrd xfull xb0 xb1 xb2 xb3 xstep xsst xfin xerr xtr xhl xhd xcl xcd : Value} {xh1 xh2 : HD}
theorem put_tl {A B C T ys : List Value} {k : Nat} (hA : A.length = 5) (hB : B.length = 515) (hC : C.length = 515) : put (A ++ (B ++ (C ++ T))) (1035 + k) ys = A ++ (B ++ (C ++ put T k ys)) := by
  unfold put; rw [List.take_append, List.take_append, List.take_append, List.drop_append, List.drop_append, List.drop_append, List.take_of_length_le (by omega), List.take_of_length_le (by omega), List.take_of_length_le (by omega), List.drop_eq_nil_of_le (by omega), List.drop_eq_nil_of_le (by omega), List.drop_eq_nil_of_le (by omega), hA, hB, hC]; rw [show 1035 + k - 5 - 515 - 515 = k by omega, show 1035 + k + ys.length - 5 - 515 - 515 = k + ys.length by omega]; simp
theorem put_buf {ys : List Value} (h : ys.length ≤ 4) : put (fc xr xrBuf xro xb xnb xh1 xh2 xbits xcb xhist xwr xrd xfull xb0 xb1 xb2 xb3 xstep xsst xfin xerr xtr xhl xhd xcl xcd) 1041 ys = (fc xr xrBuf xro xb xnb xh1 xh2 xbits xcb xhist xwr xrd xfull (ys.getD 0 xb0) (ys.getD 1 xb1) (ys.getD 2 xb2) (ys.getD 3 xb3) xstep xsst xfin xerr xtr xhl xhd xcl xcd) := by
  unfold fc; rw [show 1041 = 1035 + 6 from rfl, put_tl rfl (HD.cells_length _) (HD.cells_length _)]
  match ys, h with
  | [], _ => rfl
  | [a], _ => rfl
  | [a, b], _ => rfl
  | [a, b, c], _ => rfl
  | [a, b, c, d], _ => rfl
  | a :: b :: c :: d :: e :: l, h => simp at h
end
instance (priority := 2000) : OA 1041 0 1 1041 := ⟨rfl⟩
instance (priority := 2000) : OA 1041 1 1 1042 := ⟨rfl⟩
instance (priority := 2000) : OA 1041 2 1 1043 := ⟨rfl⟩
instance (priority := 2000) : OA 1041 3 1 1044 := ⟨rfl⟩
theorem inv_nat {n : Nat} (h : n < 65536) : (BitVec.ofInt 64 (-1) ^^^ BitVec.ofInt 64 (n : Nat)).toNat = 18446744073709551615 - n := by
  have e1 : BitVec.ofInt 64 (-1) = BitVec.allOnes 64 := by decide
  have e2 : (BitVec.ofInt 64 (n : Nat)) = BitVec.ofNat 64 n := BitVec.ofInt_natCast ..; rw [e1, e2, BitVec.allOnes_xor, BitVec.toNat_not, BitVec.toNat_ofNat, Nat.mod_eq_of_lt (by omega)]
theorem inv_wrap {n : Nat} (h : n < 65536) : IntKind.i64.wrap ((BitVec.ofInt IntKind.i64.bits (-1) ^^^ BitVec.ofInt IntKind.i64.bits (n : Nat)).toNat) = -(n : Int) - 1 := by
  have e : (BitVec.ofInt IntKind.i64.bits (-1) ^^^ BitVec.ofInt IntKind.i64.bits (n : Nat)).toNat = 18446744073709551615 - n := inv_nat h; rw [e]; simp only [IntKind.wrap, IntKind.bits, IntKind.signed, Bool.true_and]
  split
  · rename_i h; simp at h; omega
  · rename_i h; simp at h; omega
end Go.Proofs.YtpbahgddoamhgaaGreatDoor
namespace Go.Proofs.YtpbahgddoamhgaaGreatDoor
open Go.Proofs.Tryz
open Go Sx Pu
set_option maxRecDepth 10000

theorem buf_get {B : List Nat} {j i : Nat} {d : Value} (h : j + i < B.length) (hi : i < 4) : (((B.drop j).take 4).map bV).getD i d = bV (B.getD (j + i) 0) := by
  rw [List.getD_eq_getElem?_getD, List.getElem?_map, List.getElem?_take, if_pos hi, List.getElem?_drop, List.getElem?_eq_getElem h, getD_lt h]; rfl
theorem inv16 {n : Nat} (h : n < 65536) : IntKind.u16.wrap (-(n : Int) - 1) = ((65535 - n : Nat) : Int) := by
  simp only [IntKind.wrap, IntKind.bits, IntKind.signed, Bool.false_and, Bool.false_eq_true, if_false]; omega
section
variable {x : Cx} {R : List Nat × RS} {O Dl : List Nat} {P j m kf : Nat}
set_option maxHeartbeats 4000000 in
theorem dataBlock_spec {s : FSt} (hx : x.Ok) (hg : Good x O Dl [] s) (ha : At x O P j s) (hnb : s.nb ≤ 7) (hR : R = rinf x.B kf (rstored x.B O ⟨P, false⟩).1 (finN s) (rstored x.B O ⟨P, false⟩).2) (hkf : 8 * x.B.length + 1 < kf + P) (hol : O.length ≤ 129 * P) (hsc : s.sst = 1 → s.cl = 0) (hm : 1000 * (8 * x.B.length + 8 - P) + 1 ≤ m) :
    CallsL Tryz.prog 70 #[.pointer (some ⟨x.fb, 0, none⟩)] (s.H x) fun _ H' => StepOut x R Dl m H' := by
  obtain ⟨yro, yb, ynb, yh1, yh2, ywr, yrd, yfull, yb0, yb1, yb2, yb3, ystep, ysst, yfin, yerr, ytr, yhl, yhd, ycl, ycd, yi, ypr, yY, yX, yC, yG⟩ := s; obtain ⟨win, rw_, hX, hC, z1, k1, z2, k2, ⟨tp, tc, htr, htc, hdt⟩, ⟨pend, hO, hpl⟩, ol⟩ := hg; obtain ⟨hi, hP, hj, hb, he, hw, hss⟩ := ha; dsimp only at *; subst hi he htr; have hlen := hx.src.len; have hwin := win.le; have hSl := hx.src.hl; obtain ⟨q1, q2⟩ := rstored_bytes (B := x.B) (O := O) (P := P) (j := j) (fun i => hx.src.byte i) (by omega) hj; have hpc := Src.piece hx.src j 4; have hG5 : ∀ a b : Nat × Obj, GD (a :: b :: (x.bb, intsO yX 148) :: (x.cbk, intsO yC 149) :: (yG ++ x.D)) x.eof x.shb x.uex x.hdr x.dic x.chk := fun a b => ((((hx.gd.app yG).cons _).cons _).cons _).cons _
  have hsd : ∀ a b : Nat × Obj, Dat x.p x.S (a :: b :: (x.bb, intsO yX 148) :: (x.cbk, intsO yC 149) :: (yG ++ x.D)) := fun a b => ((((hx.src.hd.app yG).cons _).cons _).cons _).cons _; refine CallsL_of func70 rfl ntmps70 rfl ?_
  try dsimp only [initE, Nat.zero_add]
  refine W_seq fun K1 hK1 => ?_; refine W_region ?_; refine xm rfl rfl ?_; refine xn rfl rfl ?_; refine xp (v_fa (q := 4) rfl underlying146 rfl rfl sizeOf37 rfl) rfl ?_; refine wst rfl rfl rfl sizeOf37 rfl rfl rfl ?_; refine WO_nil (sq_n (hK1 _ _ ?_)); refine W.keep [0] rfl ?_; refine W_seq fun K2 hK2 => ?_; refine W_region ?_; refine xm rfl rfl ?_; refine xn rfl rfl ?_; refine xp (v_fa (q := 3) rfl underlying146 rfl rfl sizeOf29 rfl) rfl ?_; refine wst rfl rfl rfl sizeOf29 rfl rfl rfl ?_; refine WO_nil (sq_n (hK2 _ _ ?_)); refine W.keep [0] rfl ?_; refine W_seq fun K3 hK3 => ?_; refine W_draw mixed ?_; refine WA_k (fuel := 6) [0,1,2,3,4,5,6,7] rfl (by kernel_rfl) ?_; refine ym rfl rfl rfl ?_; refine yp rfl (v_nil rfl rfl) rfl ?_; refine yp rfl (v_fa (q := 0) rfl underlying146 rfl rfl sizeOf82 rfl) rfl ?_; refine yv rfl (ld rfl rfl isAgg82) rfl ?_; refine ym rfl rfl rfl ?_
  refine yp rfl (v_nil rfl rfl) rfl ?_; refine yp rfl (v_fa (q := 1041) rfl underlying146 rfl rfl sizeOf85 rfl) rfl ?_; refine yp rfl (v_sla rfl underlying85 sizeOf5 rfl .none (.some rfl) (.some rfl) (by omega) (by omega) (by omega) (by decide)) rfl ?_; refine WK_nil ?_; refine WA_one (k := 8) rfl (by kernel_rfl) ?_; rw [pmv_zero]; refine wc (e_c rfl rfl rfl call51) rfl rfl rfl (readFull_spec (k := x.k) (cap := x.cap) (i := x.o + j) (pr := ypr) (n := 4) (dcap := 4) (hG5 _ _) (hsd _ _) (by omega) (by omega) hx.cap AtH.here (by decide) (by decide) (by decide) (by rw [fc_length]; decide) (hG5 _ _)) (.cons (.there .here) .all) ?_; rintro _ _ ⟨pr2, ⟨hle, rfl, rfl⟩ | ⟨hlt, rfl, rfl⟩⟩
  all_goals ((try simp only [ap4]))
  · rw [hpc, put_buf (by simp; omega)]; refine WO_nil (sq_n ?_); refine WA_k (fuel := 0) [9,10,11,12,13] rfl (by kernel_rfl) ?_; refine ym rfl rfl rfl ?_; refine yp rfl (v_ex rfl rfl rfl) rfl ?_; refine yp rfl (v_ex rfl rfl rfl) rfl ?_; refine yp rfl (v_as rfl rfl) rfl ?_; refine yp rfl (v_as rfl rfl) rfl ?_; refine WK_nil ?_; refine WA_nil (by kernel_rfl) (sq_n (hK3 _ _ ?_)); refine W.keep [0,2,3] rfl ?_; refine W_seq fun K4 hK4 => ?_; refine W.drop (.cons (.there .here) .all) ?_; refine W_region ?_; refine xm rfl rfl ?_; refine xn rfl rfl ?_; refine xp (v_fa (q := 2) rfl underlying146 rfl rfl sizeOf2 rfl) rfl ?_; refine xv (ld rfl rfl isAgg2) rfl ?_; refine xm rfl rfl ?_; refine xp (v_add rfl rfl rfl rfl) rfl ?_; refine xn rfl rfl ?_; refine xp (v_fa (q := 2) rfl underlying146 rfl rfl sizeOf2 rfl) rfl ?_; refine wst rfl rfl rfl sizeOf2 rfl rfl rfl ?_; refine WO_nil (sq_n (hK4 _ _ ?_))
    refine W.keep [0,3] rfl ?_; refine W_seq fun K5 hK5 => ?_; refine W_seq fun K6 hK6 => ?_; refine W_region ?_; refine xm rfl rfl ?_; refine xp (v_nen rfl rfl) rfl ?_; refine WO_nil (sq_n (hK6 _ _ ?_)); refine W_cond_f rfl ?_; refine W_skip (sq_n (hK5 _ _ ?_)); refine W.keep [0] rfl ?_; refine W_seq fun K7 hK7 => ?_; have hj4 : j + 4 ≤ x.B.length := by omega
    rw [buf_get (by omega) (by decide), buf_get (by omega) (by decide), buf_get (by omega) (by decide), buf_get (by omega) (by decide)]; have c0 := hx.src.byte (j + 0); have c1 := hx.src.byte (j + 1); have c2 := hx.src.byte (j + 2); have c3 := hx.src.byte (j + 3); refine W_draw mixed ?_; refine WA_k (fuel := 0) [0,1,2,3,4,5,6,7,8,9,10,11,12,13,14] rfl (by kernel_rfl) ?_; refine ym rfl rfl rfl ?_; refine yp rfl (v_nil rfl rfl) rfl ?_; refine yp rfl (v_fa (q := 1041) rfl underlying146 rfl rfl sizeOf85 rfl) rfl ?_; refine yp rfl (v_ixa rfl underlying85 sizeOf5 rfl rfl (by omega)) rfl ?_; refine yv rfl (ld rfl rfl isAgg5) rfl ?_; refine yp rfl (n_cv rfl underlying5 underlying3 rfl kI (by omega)) rfl ?_; refine ym rfl rfl rfl ?_; refine yp rfl (v_nil rfl rfl) rfl ?_; refine yp rfl (v_fa (q := 1041) rfl underlying146 rfl rfl sizeOf85 rfl) rfl ?_
    refine yp rfl (v_ixa rfl underlying85 sizeOf5 rfl rfl (by omega)) rfl ?_; refine yv rfl (ld rfl rfl isAgg5) rfl ?_; refine yp rfl (n_cv rfl underlying5 underlying3 rfl kI (by omega)) rfl ?_; refine yp rfl (n_shl rfl rfl rfl kI (by decide) (by omega)) rfl ?_; refine yp rfl (n_oradd rfl rfl rfl kI (by omega) (by omega) (by omega)) rfl ?_; refine yp rfl (v_as rfl rfl) rfl ?_; refine WK_nil ?_; refine WA_nil (by kernel_rfl) (sq_n (hK7 _ _ ?_)); refine W.keep [0,4] rfl ?_; refine W_seq fun K8 hK8 => ?_; refine W_draw mixed ?_; refine WA_k (fuel := 0) [0,1,2,3,4,5,6,7,8,9,10,11,12,13,14] rfl (by kernel_rfl) ?_; refine ym rfl rfl rfl ?_; refine yp rfl (v_nil rfl rfl) rfl ?_; refine yp rfl (v_fa (q := 1041) rfl underlying146 rfl rfl sizeOf85 rfl) rfl ?_; refine yp rfl (v_ixa rfl underlying85 sizeOf5 rfl rfl (by omega)) rfl ?_; refine yv rfl (ld rfl rfl isAgg5) rfl ?_
    refine yp rfl (n_cv rfl underlying5 underlying3 rfl kI (by omega)) rfl ?_; refine ym rfl rfl rfl ?_; refine yp rfl (v_nil rfl rfl) rfl ?_; refine yp rfl (v_fa (q := 1041) rfl underlying146 rfl rfl sizeOf85 rfl) rfl ?_; refine yp rfl (v_ixa rfl underlying85 sizeOf5 rfl rfl (by omega)) rfl ?_; refine yv rfl (ld rfl rfl isAgg5) rfl ?_; refine yp rfl (n_cv rfl underlying5 underlying3 rfl kI (by omega)) rfl ?_; refine yp rfl (n_shl rfl rfl rfl kI (by decide) (by omega)) rfl ?_; refine yp rfl (n_oradd rfl rfl rfl kI (by omega) (by omega) (by omega)) rfl ?_; refine yp rfl (v_as rfl rfl) rfl ?_; refine WK_nil ?_; refine WA_nil (by kernel_rfl) (sq_n (hK8 _ _ ?_)); refine W.keep [0,4,5] rfl ?_; refine W_seq fun K9 hK9 => ?_; refine W_seq fun K10 hK10 => ?_; refine W_region ?_; refine xm rfl rfl ?_; refine xp (n_cv rfl underlying3 underlying115 rfl kH (by omega)) rfl ?_; refine xm rfl rfl ?_
    refine xp (v_inv rfl rfl (inv_wrap (by omega))) rfl ?_; refine xp (v_cv rfl underlying3 underlying115 rfl (inv16 (by omega))) rfl ?_; refine xp (n_ne rfl rfl rfl) rfl ?_; refine WO_nil (sq_n (hK10 _ _ ?_)); refine W.keep [0,4,72] rfl ?_; refine W_cond rfl (fun hc1 => ?_) (fun hc1 => ?_)
    · replace hc1 := of_decide_eq_true hc1; simp only [Nat.add_zero] at hc1 c0; refine W_seq fun K11 hK11 => ?_; refine W_region ?_; refine xm rfl rfl ?_; refine xm rfl rfl ?_; refine xn rfl rfl ?_; refine xp (v_fa (q := 2) rfl underlying146 rfl rfl sizeOf2 rfl) rfl ?_; refine xv (ld rfl rfl isAgg2) rfl ?_; refine xp (v_mi rfl underlying168 rfl rfl) rfl ?_; refine xn rfl rfl ?_; refine xp (v_fa (q := 1048) rfl underlying146 rfl rfl sizeOf47 rfl) rfl ?_; refine wst rfl rfl rfl sizeOf47 rfl rfl rfl ?_; refine WO_nil (sq_n (hK11 _ _ ?_)); refine W.keep [0,4] rfl ?_; refine W_ret (sq_r (ret_of (v := _) rfl ?_))
      exact ⟨(FSt.mk (_) (wV 0) (0) yh1 yh2 ywr yrd yfull (_) (_) (_) (_) ystep ysst yfin (_) (.slice tp 0 tc) yhl yhd ycl ycd (x.o + j + 4) (pr2) yY yX yC yG), O, [], rfl, ⟨win, rw_, hX, hC, z1, k1, z2, k2, ⟨tp, tc, rfl, Nat.zero_le _, DatV.nil⟩, ⟨pend, hO, hpl⟩, ol⟩, .inr (.inr ⟨.inr (.inl ⟨_, rfl⟩), (by rw [hR]; exact rinf_fail ((q2 hj4).1 (by omega)) _), by simp only; omega⟩)⟩
    · replace hc1 := of_decide_eq_false hc1; simp only [Nat.add_zero] at hc1 c0; have q3 := (q2 hj4).2 (by omega); refine W_skip (sq_n (hK9 _ _ ?_)); refine W_seq fun K12 hK12 => ?_; refine W_seq fun K13 hK13 => ?_; refine W_region ?_; refine xm rfl rfl ?_; refine xp (n_eq rfl rfl rfl) rfl ?_; refine WO_nil (sq_n (hK13 _ _ ?_)); refine W_cond rfl (fun hc2 => ?_) (fun hc2 => ?_)
      · replace hc2 := of_decide_eq_true hc2; refine W_seq fun K14 hK14 => ?_; refine W_region ?_; refine xm rfl rfl ?_; refine xm rfl rfl ?_; refine xn rfl rfl ?_; refine xp (v_fa (q := 1037) rfl underlying146 rfl rfl sizeOf142 rfl) rfl ?_; refine wc (e_c rfl rfl rfl call75) rfl rfl rfl (readFlush_spec rw_ hwin) .all ?_; rintro _ _ ⟨rfl, rfl⟩; (try simp only [ap4]); refine xn rfl rfl ?_; refine xp (v_fa (q := 1049) rfl underlying146 rfl rfl sizeOf22 rfl) rfl ?_; refine wst rfl rfl rfl sizeOf22 rfl rfl rfl ?_; refine WO_nil (sq_n (hK14 _ _ ?_)); refine W.keep [0,4] rfl ?_; refine W_seq fun K15 hK15 => ?_; rw [if_neg (by omega), if_neg (by omega)]; refine W_region ?_; refine xm rfl rfl ?_; refine wc (e_c rfl rfl rfl call76) rfl rfl rfl (finishBlock_spec (rd := ywr) ((hG5 _ _)) (Nat.le_refl _) hwin) .all ?_; intro _ H2 hfb; (try simp only [ap4]); refine WO_nil (sq_n (hK15 _ _ ?_))
        refine W_ret (sq_r (ret_of (v := _) rfl ?_)); have hn0 : x.B.getD j 0 + x.B.getD (j + 1) 0 * 256 = 0 := hc2; have hR3 : R = rinf x.B kf O (if yfin = true then 1 else 0) ⟨8 * (j + 4), false⟩ := by
          rw [hR, q3.1 (by omega), hn0]; simp [finN]
        have hd3 := DatV.win (hb := x.hb) win (by simpa using hO) hpl rw_; rcases hfb with ⟨rfl, rfl⟩ | ⟨rfl, hrd, rfl⟩ | ⟨rfl, hrd, rfl⟩
        · refine ⟨(FSt.mk (_) (wV 0) (0) yh1 yh2 ywr (ywr) yfull (_) (_) (_) (_) (64) ysst (false) (.nilIface) (flV x.hb ywr yrd) yhl yhd ycl ycd (x.o + j + 4) (pr2) yY yX yC yG), O, pend, rfl, ⟨win, Nat.le_refl _, hX, hC, z1, k1, z2, k2, ⟨_, 32768 - yrd, (by rw [hpl]), by omega, hd3⟩, ⟨[], (by simpa using hO), (Nat.sub_self _).symm⟩, ol⟩, .inl ⟨_, ?_, 8 * (j + 4), j + 4, ⟨(by show x.o + j + 4 = _; omega), (by show _ + 0 = _; omega), hj4, rfl, rfl, hw, hss⟩, rfl, .inl ⟨rfl, by simp, hsc, by omega, kf, ?_, by omega⟩⟩⟩
          · simp only [mu]; rw [if_neg (by simp), if_neg (by simp)]; omega
          · rw [hR3]; rfl
        · have hR4 : R = (O, ⟨8 * (j + 4), false⟩) := by rw [hR3, rinf_end (.inl (by simp))]
          have hal : (ralign ⟨8 * (j + 4), false⟩).at_ / 8 = j + 4 := by show (8 * (j + 4) + 7) / 8 * 8 / 8 = _; omega
          exact ⟨(FSt.mk (_) (wV 0) (0) yh1 yh2 ywr (ywr) yfull (_) (_) (_) (_) (64) ysst (true) (errV x.eof) (flV x.hb ywr yrd) yhl yhd ycl ycd (x.o + j + 4) (pr2) yY yX yC yG), O, pend, rfl, ⟨win, Nat.le_refl _, hX, hC, z1, k1, z2, k2, ⟨_, 32768 - yrd, (by rw [hpl]), by omega, hd3⟩, ⟨[], (by simpa using hO), (Nat.sub_self _).symm⟩, ol⟩, .inr (.inl ⟨rfl, by rw [hR4], by rw [hR4], by rw [hR4, hal]; show x.o + j + 4 = _; omega, by rw [hR4, hal]; omega, rfl⟩)⟩
        · omega
      · replace hc2 := of_decide_eq_false hc2; refine W_skip (sq_n (hK12 _ _ ?_)); refine W.keep [0,4] rfl ?_; refine W_seq fun K16 hK16 => ?_; refine W_region ?_; refine xm rfl rfl ?_; refine xm rfl rfl ?_; refine xn rfl rfl ?_; refine xp (v_fa (q := 1052) rfl underlying146 rfl rfl sizeOf3 rfl) rfl ?_; refine wst rfl rfl rfl sizeOf3 rfl rfl rfl ?_; refine WO_nil (sq_n (hK16 _ _ ?_)); refine W.keep [0] rfl ?_; refine W_region ?_; refine xm rfl rfl ?_
        refine wc (e_c rfl rfl rfl call77) rfl rfl rfl (copyData_spec (R := R) (Dl := Dl) (O := O) (P := 8 * (j + 4)) (j := j + 4) (m := m) (s := (FSt.mk (_) (wV 0) (0) yh1 yh2 ywr yrd yfull (_) (_) (_) (_) ystep ysst yfin (.nilIface) (.slice tp 0 tc) yhl yhd (x.B.getD (j + 0) 0 + x.B.getD (j + 1) 0 * 2 ^ 8) ycd (x.o + j + 4) (pr2) yY yX yC yG)) hx ⟨win, rw_, hX, hC, z1, k1, z2, k2, ⟨tp, tc, rfl, Nat.zero_le _, DatV.nil⟩, ⟨pend, hO, hpl⟩, ol⟩ ⟨(by show x.o + j + 4 = _; omega), (by show _ + 0 = _; omega), hj4, rfl, rfl, hw, hss⟩ ⟨rfl, (by show x.B.getD j 0 + x.B.getD (j + 1) 0 * 256 ≤ 65535; omega), (by omega), kf, (fun h => by rw [hR, q3.1 h]; rfl), (fun h => by rw [hR]; exact rinf_fail (q3.2 h) _), (by omega)⟩ (by omega)) .all ?_; rintro _ _ hso; (try simp only [ap4]); refine WO_nil (end_of (v := _) rfl ?_); exact hso
  · rw [hpc, put_buf (by simp; omega)]; refine WO_nil (sq_n ?_); refine WA_k (fuel := 0) [9,10,11,12,13] rfl (by kernel_rfl) ?_; refine ym rfl rfl rfl ?_; refine yp rfl (v_ex rfl rfl rfl) rfl ?_; refine yp rfl (v_ex rfl rfl rfl) rfl ?_; refine yp rfl (v_as rfl rfl) rfl ?_; refine yp rfl (v_as rfl rfl) rfl ?_; refine WK_nil ?_; refine WA_nil (by kernel_rfl) (sq_n (hK3 _ _ ?_)); refine W.keep [0,2,3] rfl ?_; refine W_seq fun K17 hK17 => ?_; refine W.drop (.cons (.there .here) .all) ?_; refine W_region ?_; refine xm rfl rfl ?_; refine xn rfl rfl ?_; refine xp (v_fa (q := 2) rfl underlying146 rfl rfl sizeOf2 rfl) rfl ?_; refine xv (ld rfl rfl isAgg2) rfl ?_; refine xm rfl rfl ?_; refine xp (v_add rfl rfl rfl rfl) rfl ?_; refine xn rfl rfl ?_; refine xp (v_fa (q := 2) rfl underlying146 rfl rfl sizeOf2 rfl) rfl ?_; refine wst rfl rfl rfl sizeOf2 rfl rfl rfl ?_
    refine WO_nil (sq_n (hK17 _ _ ?_)); refine W.keep [0,3] rfl ?_; refine W_seq fun K18 hK18 => ?_; refine W_seq fun K19 hK19 => ?_; refine W_region ?_; refine xm rfl rfl ?_; refine xp (v_nei rfl rfl (by split <;> rfl)) rfl ?_; refine WO_nil (sq_n (hK19 _ _ ?_)); refine W_cond_t rfl ?_; refine W_seq fun K20 hK20 => ?_; refine W_region ?_; refine xm rfl rfl ?_; refine xm rfl rfl ?_; refine wc (e_c rfl rfl rfl call74) rfl rfl rfl ((show CallsL Tryz.prog 74 #[if x.S.length = x.o + j then errV x.eof else errV x.uex] _ (fun v H' => v = errV x.uex ∧ H' = _) from by split; exact noEOF_eof ((hG5 _ _).cons _); exact noEOF_uex ((hG5 _ _).cons _))) .all ?_; rintro _ _ ⟨rfl, rfl⟩; (try simp only [ap4]); refine xn rfl rfl ?_; refine xp (v_fa (q := 1048) rfl underlying146 rfl rfl sizeOf47 rfl) rfl ?_; refine wst rfl rfl rfl sizeOf47 rfl rfl rfl ?_; refine WO_nil (sq_n (hK20 _ _ ?_))
    refine W.keep [0] rfl ?_; refine W_ret (sq_r (ret_of (v := _) rfl ?_)); exact ⟨(FSt.mk (_) (wV 0) (0) yh1 yh2 ywr yrd yfull (_) (_) (_) (_) ystep ysst yfin (errV x.uex) (.slice tp 0 tc) yhl yhd ycl ycd (x.S.length) (pr2) yY yX yC yG), O, [], rfl, ⟨win, rw_, hX, hC, z1, k1, z2, k2, ⟨tp, tc, rfl, Nat.zero_le _, DatV.nil⟩, ⟨pend, hO, hpl⟩, ol⟩, .inr (.inr ⟨.inl rfl, (by rw [hR]; exact rinf_fail (q1 (by omega)) _), Nat.le_refl _⟩)⟩
end
end Go.Proofs.YtpbahgddoamhgaaGreatDoor
namespace Go.Proofs.YtpbahgddoamhgaaGreatDoor.Pu

theorem rclen_bad {B : List Nat} {s : RS} (h : s.fail = true) : ∀ n, (rclen B s n).2.fail = true
  | 0 => h
  | n + 1 => by simp only [rclen]; rw [rbits_fail (rclen_bad h n)]; exact rclen_bad h n
theorem rclen_ok {B : List Nat} {P : Nat} : ∀ n, P + 3 * n ≤ 8 * B.length → (rclen B ⟨P, false⟩ n).2 = ⟨P + 3 * n, false⟩
  | 0, _ => rfl
  | n + 1, h => by simp only [rclen]; rw [rclen_ok n (by omega), rbits_eq (by omega)]; simp only [RS.mk.injEq, and_true]; omega
theorem rclen_short {B : List Nat} {P : Nat} (hP : P ≤ 8 * B.length) : ∀ n, 8 * B.length < P + 3 * n → (rclen B ⟨P, false⟩ n).2.fail = true
  | 0, h => by omega
  | n + 1, h => by
    simp only [rclen]; rcases Nat.lt_or_ge (8 * B.length) (P + 3 * n) with h1 | h1
    · have := rclen_short hP n h1; rw [rbits_fail this]; exact this
    · rw [rclen_ok n h1]; exact rbits_short (by omega) h1
theorem rclen_more {B : List Nat} {s : RS} (n : Nat) : ∀ m, (rclen B s n).2.fail = true → (rclen B s (n + m)).2.fail = true
  | 0, h => h
  | m + 1, h => by
    have := rclen_more n m h; rw [← Nat.add_assoc]; simp only [rclen]; rw [rbits_fail this]; exact this
theorem rclen_step {B : List Nat} {P i : Nat} (h : P + 3 * i + 3 ≤ 8 * B.length) : (rclen B ⟨P, false⟩ (i + 1)).1 = (rclen B ⟨P, false⟩ i).1.set (orderL.getD i 0) (bitsv B (P + 3 * i) 3) := by
  simp only [rclen]; rw [rclen_ok i (by omega), rbits_eq (by omega)]
theorem order_ne0 : ∀ n, n < 19 → ∀ k, k < 19 → n < k → orderL.getD k 0 ≠ orderL.getD n 0 := by decide
theorem order_lt0 : ∀ n, n < 19 → orderL.getD n 0 < 19 := by decide
theorem order_all0 : ∀ i, i < 19 → ∃ t, t < 19 ∧ orderL.getD t 0 = i := by decide
theorem getD_set {α : Type} {l : List α} {i j : Nat} {x d : α} (h : i < l.length) : (l.set i x).getD j d = if i = j then x else l.getD j d := by
  rw [List.getD_eq_getElem?_getD, List.getElem?_set, List.getD_eq_getElem?_getD]
  split
  · rename_i e; subst e; simp
  · rfl
theorem rclen_zero {B : List Nat} {s : RS} : ∀ n, n ≤ 19 → ∀ k, n ≤ k → k < 19 → (rclen B s n).1.getD (orderL.getD k 0) 0 = 0
  | 0, _, k, _, h => by
    have := order_lt0 k h; simp only [rclen]; rw [List.getD_eq_getElem?_getD, List.getElem?_replicate, if_pos this]; rfl
  | n + 1, hn, k, h1, h2 => by
    simp only [rclen]; rw [getD_set (by rw [rclen_length]; exact order_lt0 n (by omega)), if_neg fun e => order_ne0 n (by omega) k h2 (by omega) e.symm]; exact rclen_zero n (by omega) k (by omega) h2
/-- the lengths as far as they are written -/
def CI3 (C V : List Nat) (n : Nat) : Prop := C.length = 19 ∧ ∀ t, t < n → C.getD (orderL.getD t 0) 0 = V.getD (orderL.getD t 0) 0
theorem CI3.step {C V : List Nat} {n v : Nat} (h : CI3 C V n) (hV : V.length = 19) (hn : n < 19) : CI3 (C.set (orderL.getD n 0) v) (V.set (orderL.getD n 0) v) (n + 1) := by
  have ho := order_lt0 n hn; refine ⟨by rw [List.length_set]; exact h.1, fun t ht => ?_⟩; rw [getD_set (by rw [h.1]; exact ho), getD_set (by rw [hV]; exact ho)]
  split
  · rfl
  · rename_i hne; refine h.2 t ?_; rcases Nat.lt_or_ge t n with h1 | h1
    · exact h1
    · exact absurd (by rw [show t = n by omega]) hne
theorem CI3.zero {C V : List Nat} {n : Nat} (h : CI3 C V n) (hn : n < 19) (hv : V.getD (orderL.getD n 0) 0 = 0) : CI3 (C.set (orderL.getD n 0) 0) V (n + 1) := by
  have ho := order_lt0 n hn; refine ⟨by rw [List.length_set]; exact h.1, fun t ht => ?_⟩; rw [getD_set (by rw [h.1]; exact ho)]
  split
  · rename_i e; rw [← e, hv]
  · rename_i hne; refine h.2 t ?_; rcases Nat.lt_or_ge t n with h1 | h1
    · exact h1
    · exact absurd (by rw [show t = n by omega]) hne
theorem CI3.all {C V : List Nat} (h : CI3 C V 19) (hV : V.length = 19) : C = V := by
  apply List.ext_getElem (by rw [h.1, hV]); intro i h1 h2; obtain ⟨t, ht, e⟩ := order_all0 i (by rw [← hV]; exact h2); have := h.2 t ht; rw [e, List.getD_eq_getElem?_getD, List.getElem?_eq_getElem h1, List.getD_eq_getElem?_getD, List.getElem?_eq_getElem h2] at this; exact this

theorem rall_bad {B : List Nat} {c : Ents} {N k : Nat} {all : List Nat} {s : RS} (h : s.fail = true) : (rall B c N k all s).2.fail = true := by
  rw [rall_end (.inl h)]; exact h
theorem rdyn4_bad {nl nd : Nat} {r : List Nat × RS} (h : r.2.fail = true) : (rdyn4 nl nd r).s.fail = true := by unfold rdyn4; rw [if_pos (.inl h)]; rfl
theorem rdyn4_len {nl nd : Nat} {r : List Nat × RS} (h : r.1.length ≠ nl + nd) : (rdyn4 nl nd r).s.fail = true := by unfold rdyn4; rw [if_pos (.inr h)]; rfl
theorem rdyn3_bad {B : List Nat} {nl nd : Nat} {q : List Nat × RS} (h : q.2.fail = true) : (rdyn3 B nl nd q).s.fail = true := by
  unfold rdyn3; exact rdyn4_bad (rall_bad (by split; exact h; rfl))
theorem rdyn2_bad {B : List Nat} {nl nd nc : Nat} {s : RS} (h : s.fail = true) : (rdyn2 B nl nd nc s).s.fail = true := by
  unfold rdyn2; split
  · rfl
  · exact rdyn3_bad (rclen_bad h _)
theorem rdyn_short {B : List Nat} {P : Nat} (hP : P ≤ 8 * B.length) (h : 8 * B.length < P + 14) : (rdyn B ⟨P, false⟩).s.fail = true := by
  unfold rdyn; refine rdyn2_bad ?_; rcases Nat.lt_or_ge (8 * B.length) (P + 5) with h1 | h1
  · have h2 := rbits_short (n := 5) h1 hP; rw [rbits_fail h2, rbits_fail h2]; exact h2
  · rw [rbits_eq h1]; simp only; rcases Nat.lt_or_ge (8 * B.length) (P + 5 + 5) with h3 | h3
    · have h2 := rbits_short (n := 5) h3 h1; rw [rbits_fail h2]; exact h2
    · rw [rbits_eq h3]; exact rbits_short (by omega) h3
theorem rdyn_head {B : List Nat} {P : Nat} (h : P + 14 ≤ 8 * B.length) : rdyn B ⟨P, false⟩ = rdyn2 B (bitsv B P 5 + 257) (bitsv B (P + 5) 5 + 1) (bitsv B (P + 10) 4 + 4) ⟨P + 14, false⟩ := by
  unfold rdyn; rw [rbits_eq (show P + 5 ≤ _ by omega)]; simp only; rw [rbits_eq (show P + 5 + 5 ≤ _ by omega)]; simp only; rw [rbits_eq (show P + 5 + 5 + 4 ≤ _ by omega)]
/-- how a length is repeated -/
def repB (s : Nat) : Nat := if s = 18 then 11 else 3
def repW (s : Nat) : Nat := if s = 16 then 2 else if s = 17 then 3 else 7
def repV (s : Nat) (all : List Nat) : Nat := if s = 16 then all.getD (all.length - 1) 0 else 0
section
variable {B C all : List Nat} {N k P s : Nat} (h15 : ∀ x ∈ C, x ≤ 15) (hN : all.length < N)
include h15 hN
theorem rall_miss (hP : P ≤ 8 * B.length) (h : ∀ s, Hit C s (bitsv B P 15) → 8 * B.length < P + C.getD s 0) : (rall B (ents C C.length) N (k + 1) all ⟨P, false⟩).2.fail = true := by
  have hf := sym_miss h15 hP h; rw [rall, if_neg (by simp; exact hN)]
  split
  · exact rall_bad hf
  · split
    · exact rall_bad rfl
    · split
      · rw [rbits_fail hf]; exact rall_bad hf
      · split
        · rw [rbits_fail hf]; exact rall_bad hf
        · rw [rbits_fail hf]; exact rall_bad hf
theorem rall_one (h : Hit C s (bitsv B P 15)) (hP : P + C.getD s 0 ≤ 8 * B.length) (hs : s < 16) : rall B (ents C C.length) N (k + 1) all ⟨P, false⟩ = rall B (ents C C.length) N k (all ++ [s]) ⟨P + C.getD s 0, false⟩ := by
  rw [rall, if_neg (by simp; exact hN), sym_hit h15 h hP, if_pos hs]
theorem rall_none (h : Hit C 16 (bitsv B P 15)) (hP : P + C.getD 16 0 ≤ 8 * B.length) (ha : all.length = 0) : (rall B (ents C C.length) N (k + 1) all ⟨P, false⟩).2.fail = true := by
  rw [rall, if_neg (by simp; exact hN), sym_hit h15 h hP, if_neg (by simp), if_pos ⟨rfl, ha⟩]; exact rall_bad rfl
theorem rall_rep (h : Hit C s (bitsv B P 15)) (hP : P + C.getD s 0 ≤ 8 * B.length) (hs : 16 ≤ s) (hs2 : s < 19) (ha : s = 16 → all.length ≠ 0) :
    (8 * B.length < P + C.getD s 0 + repW s → (rall B (ents C C.length) N (k + 1) all ⟨P, false⟩).2.fail = true) ∧
    (P + C.getD s 0 + repW s ≤ 8 * B.length → rall B (ents C C.length) N (k + 1) all ⟨P, false⟩ = rall B (ents C C.length) N k (all ++ List.replicate (repB s + bitsv B (P + C.getD s 0) (repW s)) (repV s all)) ⟨P + C.getD s 0 + repW s, false⟩) := by
  have h16 : s = 16 ∨ s = 17 ∨ s = 18 := by omega
  rw [rall, if_neg (by simp; exact hN), sym_hit h15 h hP, if_neg (by simp; omega), if_neg (fun e => ha e.1 e.2)]; rcases h16 with rfl | rfl | rfl
  · rw [if_pos rfl]; refine ⟨fun hl => rall_bad (rbits_short hl hP), fun hl => ?_⟩; dsimp only; rw [rbits_eq (n := 2) hl]; rfl
  · rw [if_neg (by simp), if_pos rfl]; refine ⟨fun hl => rall_bad (rbits_short hl hP), fun hl => ?_⟩; dsimp only; rw [rbits_eq (n := 3) hl]; rfl
  · rw [if_neg (by simp), if_neg (by simp)]; refine ⟨fun hl => rall_bad (rbits_short hl hP), fun hl => ?_⟩; dsimp only; rw [rbits_eq (n := 7) hl]; rfl
end
theorem rdyn4_end {B : List Nat} {c : Ents} {nl nd k P : Nat} {all : List Nat} (h : all.length = nl + nd) : rdyn4 nl nd (rall B c (nl + nd) k all ⟨P, false⟩) = ⟨all.take nl, all.drop nl, ⟨P, false⟩⟩ := by
  rw [rall_end (.inr (by omega))]; unfold rdyn4; rw [if_neg (by simp [h])]
theorem rdyn4_over {B : List Nat} {c : Ents} {nl nd k P : Nat} {all : List Nat} (h : nl + nd < all.length) : (rdyn4 nl nd (rall B c (nl + nd) k all ⟨P, false⟩)).s.fail = true := by
  rw [rall_end (.inr (by omega))]; exact rdyn4_len (by simp only; omega)
/-- such a block fails -/
theorem rone_bad {B : List Nat} {s : RS} (h : (rdyn B s).s.fail = true) (O : List Nat) : (rone B 2 O s).2.fail = true := by
  unfold rone; rw [if_neg (by decide), if_neg (by decide), if_pos rfl, if_pos h]; exact h
theorem rblock_bad {B L1 L2 : List Nat} {s : RS} (h : okCode L1 = false ∨ okCode L2 = false) (O : List Nat) : (rblock B L1 L2 O s).2.fail = true := by
  unfold rblock; rw [if_neg (by rintro ⟨h1, h2⟩; rcases h with h | h <;> simp_all)]; rw [rblk_bad rfl]; rfl
theorem rone_code {B : List Nat} {s : RS} {L1 L2 : List Nat} {t : RS} (h : rdyn B s = ⟨L1, L2, t⟩) (ht : t.fail = false) (O : List Nat) : rone B 2 O s = rblock B L1 L2 O t := by
  unfold rone; rw [if_neg (by decide), if_neg (by decide), if_pos rfl, if_neg (by rw [h]; simp [ht]), h]
theorem rblock_code {B L1 L2 : List Nat} {s : RS} (h1 : okCode L1 = true) (h2 : okCode L2 = true) (O : List Nat) : rblock B L1 L2 O s = rblk B (ents L1 L1.length) (ents L2 L2.length) (8 * B.length + 1) O s := by
  unfold rblock; rw [if_pos ⟨h1, h2⟩]
theorem mn_le {L : List Nat} {s : Nat} (h : 1 ≤ L.getD s 0) : mn L L.length ≤ L.getD s 0 := by
  rcases mn_all L s with h2 | h2
  · omega
  · exact h2
end Go.Proofs.YtpbahgddoamhgaaGreatDoor.Pu
