/- Part 4 of 12 of the proof: the executor, the walks and the plain laws, in build order. -/
import Derived.Test.YtpbahgddoamhgaaGreatDoorQc
namespace Go.Proofs.YtpbahgddoamhgaaGreatDoor.Pu

theorem map_range_set' {f g : Nat → Nat} {n i v : Nat} (hv : g i = v) (h : ∀ j, j < n → j ≠ i → g j = f j) : ((List.range n).map f).set i v = (List.range n).map g := by
  apply List.ext_getElem
  · simp
  · intro j h1 h2; rw [List.getElem_set]
    split
    · rename_i e; subst e; simp [hv]
    · rename_i e; simp; exact (h j (by simpa using h2) (fun e2 => e e2.symm)).symm
/-- what a place of the first table holds that no short code takes -/
def base (L : List Nat) (i : Nat) : Nat := if 9 < mx L L.length ∧ cn L 9 ≤ rv 9 i then (rv 9 i - cn L 9) * 16 + 10 else 0
def chJ (L : List Nat) (j : Nat) : List Nat := (List.range 512).map fun i => if cn L 9 ≤ rv 9 i ∧ rv 9 i < j then (rv 9 i - cn L 9) * 16 + 10 else 0
theorem chJ_step {L : List Nat} {j : Nat} (h : cn L 9 ≤ j) (hj : j < 512) : (chJ L j).set (rv 9 j) ((j - cn L 9) * 16 + 10) = chJ L (j + 1) := by
  refine map_range_set' ?_ fun i hi hij => ?_
  · rw [rv_rv 9 j (by omega), if_pos (by omega)]
  · have : rv 9 i ≠ j := by
      intro e; have := rv_rv 9 i (by omega); rw [e] at this; exact hij this.symm
    by_cases h1 : cn L 9 ≤ rv 9 i ∧ rv 9 i < j
    · rw [if_pos h1, if_pos (by omega)]
    · rw [if_neg h1, if_neg (by omega)]
structure CI (L : List Nat) (k : Nat) (ch : List Nat) : Prop where
  len : ch.length = 512
  hit : ∀ i, i < 512 → ∀ s, s < k → L.getD s 0 ≤ 9 → Hit L s i → ch.getD i 0 = s * 16 + L.getD s 0
  no : ∀ i, i < 512 → (∀ s, s < k → L.getD s 0 ≤ 9 → ¬ Hit L s i) → ch.getD i 0 = base L i
theorem CI.long {L : List Nat} (h : 9 < mx L L.length) : CI L 0 (chJ L 512) := by
  refine ⟨by simp [chJ], fun i _ s hs => by omega, fun i hi _ => ?_⟩; unfold chJ base; rw [map_range_get hi]; have := rv_lt 9 i; by_cases h1 : cn L 9 ≤ rv 9 i
  · rw [if_pos (by omega), if_pos ⟨h, h1⟩]
  · rw [if_neg (by omega), if_neg (by omega)]
theorem CI.short {L : List Nat} (h : ¬ 9 < mx L L.length) : CI L 0 (List.replicate 512 0) := by
  refine ⟨List.length_replicate, fun i _ s hs => by omega, fun i hi _ => ?_⟩; unfold base; rw [if_neg (fun h1 => h h1.1), List.getD_eq_getElem?_getD, List.getElem?_replicate, if_pos hi]; rfl
theorem CI.same {L : List Nat} {k : Nat} {ch : List Nat} (h : CI L k ch) (hk : L.getD k 0 = 0 ∨ 9 < L.getD k 0) : CI L (k + 1) ch := by
  refine ⟨h.len, fun i hi s hs h9 hh => ?_, fun i hi hno => h.no i hi fun s hs => hno s (by omega)⟩; rcases Nat.lt_or_ge s k with h1 | h1
  · exact h.hit i hi s h1 h9 hh
  · have : s = k := by omega
    subst this; have := hh.2.1; omega
theorem CI.step {L : List Nat} {k : Nat} {ch ch' : List Nat} (h : CI L k ch) (h15 : ∀ x ∈ L, x ≤ 15) (hK : cn L 15 ≤ 2 ^ 15) (hk : k < L.length) (h1 : 1 ≤ L.getD k 0) (h9 : L.getD k 0 ≤ 9) (hlen : ch'.length = 512)
    (hc : ∀ i, i < 512 → ch'.getD i 0 = if i % 2 ^ L.getD k 0 = rv (L.getD k 0) (codeOf L k) then k * 16 + L.getD k 0 else ch.getD i 0) : CI L (k + 1) ch' := by
  refine ⟨hlen, fun i hi s hs h9 hh => ?_, fun i hi hno => ?_⟩
  · rw [hc i hi]
    split
    · rename_i e; rw [hit_unique h15 hh ((hit_iff h15 hK hk h1).2 e)]
    · rename_i e; rcases Nat.lt_or_ge s k with h2 | h2
      · exact h.hit i hi s h2 h9 hh
      · have : s = k := by omega
        subst this; exact absurd ((hit_iff h15 hK hk h1).1 hh) e
  · rw [hc i hi]
    split
    · rename_i e; exact absurd ((hit_iff h15 hK hk h1).2 e) (hno k (by omega) h9)
    · exact h.no i hi fun s hs => hno s (by omega)
structure TI (L : List Nat) (k nl : Nat) (tabs : List (List Nat)) : Prop where
  len : tabs.length = 512 - cn L 9
  each : ∀ j, j < tabs.length → (tabs.getD j []).length = nl
  hit : ∀ j, j < tabs.length → ∀ o, o < nl → ∀ s, s < k → 9 < L.getD s 0 → Hit L s (rv 9 (cn L 9 + j) + 512 * o) → (tabs.getD j []).getD o 0 = s * 16 + L.getD s 0
  no : ∀ j, j < tabs.length → ∀ o, o < nl → (∀ s, s < k → 9 < L.getD s 0 → ¬ Hit L s (rv 9 (cn L 9 + j) + 512 * o)) → (tabs.getD j []).getD o 0 = 0
theorem TI.zero {L : List Nat} {nl : Nat} : TI L 0 nl (List.replicate (512 - cn L 9) (List.replicate nl 0)) := by
  have hg : ∀ j, j < (List.replicate (512 - cn L 9) (List.replicate nl 0)).length → (List.replicate (512 - cn L 9) (List.replicate nl 0)).getD j [] = List.replicate nl 0 := fun j hj => by
    rw [List.length_replicate] at hj; rw [List.getD_eq_getElem?_getD, List.getElem?_replicate, if_pos hj]; rfl
  refine ⟨List.length_replicate, fun j hj => by rw [hg j hj, List.length_replicate], fun j _ o _ s hs => by omega, fun j hj o ho _ => ?_⟩; rw [hg j hj, List.getD_eq_getElem?_getD, List.getElem?_replicate, if_pos ho]; rfl
theorem TI.same {L : List Nat} {k nl : Nat} {tabs : List (List Nat)} (h : TI L k nl tabs) (hk : L.getD k 0 ≤ 9) : TI L (k + 1) nl tabs := by
  refine ⟨h.len, h.each, fun j hj o ho s hs h9 hh => ?_, fun j hj o ho hno => h.no j hj o ho fun s hs => hno s (by omega)⟩; rcases Nat.lt_or_ge s k with h1 | h1
  · exact h.hit j hj o ho s h1 h9 hh
  · have : s = k := by omega
    subst this; omega
theorem cn_grow (L : List Nat) (i : Nat) : ∀ d, cn L i * 2 ^ d ≤ cn L (i + d)
  | 0 => by simp
  | d + 1 => by
    have := cn_grow L i d; rw [← Nat.add_assoc, cn, Nat.pow_succ, ← Nat.mul_assoc]; omega
/-- the first nine bits of a long code -/
theorem long_top {L : List Nat} (h15 : ∀ x ∈ L, x ≤ 15) (hK : cn L 15 ≤ 2 ^ 15) {k : Nat} (hk : k < L.length) (h9 : 9 < L.getD k 0) : cn L 9 ≤ codeOf L k / 2 ^ (L.getD k 0 - 9) ∧ codeOf L k / 2 ^ (L.getD k 0 - 9) < 512 := by
  have h1 : 1 ≤ L.getD k 0 := by omega
  have hc := codeOf_eq h15 h1; have hlt := codeOf_lt2 h15 hK hk h1; have hg := cn_grow L 9 (L.getD k 0 - 1 - 9); rw [show 9 + (L.getD k 0 - 1 - 9) = L.getD k 0 - 1 by omega] at hg; constructor
  · rw [Nat.le_div_iff_mul_le (Nat.two_pow_pos _), show L.getD k 0 - 9 = (L.getD k 0 - 1 - 9) + 1 by omega, Nat.pow_succ, ← Nat.mul_assoc]; omega
  · rw [Nat.div_lt_iff_lt_mul (Nat.two_pow_pos _)]; have : 512 * 2 ^ (L.getD k 0 - 9) = 2 ^ L.getD k 0 := by
      rw [show (512 : Nat) = 2 ^ 9 from rfl, ← Nat.pow_add]; congr 1; omega
    omega
theorem rv_long {n c : Nat} (h : 9 < n) : rv n c = rv (n - 9) c * 512 + rv 9 (c / 2 ^ (n - 9)) := by
  have := rv_split (n - 9) 9 c; rwa [Nat.sub_add_cancel (by omega)] at this
theorem hit_long {L : List Nat} (h15 : ∀ x ∈ L, x ≤ 15) (hK : cn L 15 ≤ 2 ^ 15) {k j o : Nat} (hk : k < L.length) (h9 : 9 < L.getD k 0) (hj : cn L 9 + j < 512) :
    Hit L k (rv 9 (cn L 9 + j) + 512 * o) ↔ cn L 9 + j = codeOf L k / 2 ^ (L.getD k 0 - 9) ∧ o % 2 ^ (L.getD k 0 - 9) = rv (L.getD k 0 - 9) (codeOf L k) := by
  obtain ⟨t1, t2⟩ := long_top h15 hK hk h9; have hx := rv_lt 9 (cn L 9 + j); have hy := rv_lt 9 (codeOf L k / 2 ^ (L.getD k 0 - 9)); have e : (rv 9 (cn L 9 + j) + 512 * o) % 2 ^ L.getD k 0 = rv 9 (cn L 9 + j) + 512 * (o % 2 ^ (L.getD k 0 - 9)) := by
    have : 2 ^ L.getD k 0 = 512 * 2 ^ (L.getD k 0 - 9) := by
      rw [show (512 : Nat) = 2 ^ 9 from rfl, ← Nat.pow_add]; congr 1; omega
    rw [this, Nat.mod_mul, Nat.add_mul_mod_self_left, Nat.add_mul_div_left _ _ (by decide), Nat.mod_eq_of_lt hx, Nat.div_eq_of_lt hx, Nat.zero_add]
  rw [hit_iff h15 hK hk (by omega), e, rv_long h9]; constructor
  · intro h; have h1 : rv 9 (cn L 9 + j) = rv 9 (codeOf L k / 2 ^ (L.getD k 0 - 9)) := by omega
    have h2 := rv_rv 9 _ (show cn L 9 + j < 2 ^ 9 by omega); rw [h1, rv_rv 9 _ (show _ < 2 ^ 9 by omega)] at h2; exact ⟨h2.symm, by omega⟩
  · rintro ⟨h1, h2⟩; rw [h1, h2]; omega
theorem TI.step {L : List Nat} {k nl v : Nat} {tabs : List (List Nat)} {t' : List Nat} (h : TI L k nl tabs) (h15 : ∀ x ∈ L, x ≤ 15) (hK : cn L 15 ≤ 2 ^ 15) (hk : k < L.length) (h9 : 9 < L.getD k 0)
    (hv : cn L 9 + v = codeOf L k / 2 ^ (L.getD k 0 - 9)) (hlen : t'.length = nl)
    (hc : ∀ o, o < nl → t'.getD o 0 = if o % 2 ^ (L.getD k 0 - 9) = rv (L.getD k 0 - 9) (codeOf L k) then k * 16 + L.getD k 0 else (tabs.getD v []).getD o 0) : TI L (k + 1) nl (tabs.set v t') := by
  obtain ⟨t1, t2⟩ := long_top h15 hK hk h9; have hl := h.len; have hvl : v < tabs.length := by omega
  have hg : ∀ j, (tabs.set v t').getD j [] = if j = v then t' else tabs.getD j [] := fun j => by
    rw [List.getD_eq_getElem?_getD, List.getElem?_set]; by_cases e : v = j
    · subst e; rw [if_pos rfl, if_pos hvl, if_pos rfl]; rfl
    · rw [if_neg e, if_neg (fun e2 => e e2.symm), List.getD_eq_getElem?_getD]
  refine ⟨by simp [hl], fun j hj => ?_, fun j hj o ho s hs hs9 hh => ?_, fun j hj o ho hno => ?_⟩
  · rw [hg]
    split
    · exact hlen
    · exact h.each j (by simpa using hj)
  · rw [List.length_set] at hj; rw [hg]
    split
    · rename_i e; subst e; rw [hc o ho]
      split
      · rename_i e2; rw [hit_unique h15 hh ((hit_long h15 hK hk h9 (by omega)).2 ⟨hv, e2⟩)]
      · rename_i e2; rcases Nat.lt_or_ge s k with h2 | h2
        · exact h.hit j hj o ho s h2 hs9 hh
        · have : s = k := by omega
          subst this; exact absurd ((hit_long h15 hK hk h9 (by omega)).1 hh).2 e2
    · rename_i e; rcases Nat.lt_or_ge s k with h2 | h2
      · exact h.hit j hj o ho s h2 hs9 hh
      · have : s = k := by omega
        subst this; have := ((hit_long h15 hK hk h9 (by omega)).1 hh).1; omega
  · rw [List.length_set] at hj; rw [hg]
    split
    · rename_i e; subst e; rw [hc o ho]
      split
      · rename_i e2; exact absurd ((hit_long h15 hK hk h9 (by omega)).2 ⟨hv, e2⟩) (hno k (by omega) h9)
      · exact h.no j hj o ho fun s hs => hno s (by omega)
    · exact h.no j hj o ho fun s hs => hno s (by omega)
/-- what the first table holds for a long code -/
theorem CI.long_at {L : List Nat} {k : Nat} {ch : List Nat} (h : CI L k ch) (h15 : ∀ x ∈ L, x ≤ 15) (hK : cn L 15 ≤ 2 ^ 15) {s b : Nat} (hh : Hit L s b) (h9 : 9 < L.getD s 0) : ch.getD (b % 512) 0 = (rv 9 b - cn L 9) * 16 + 10 ∧ cn L 9 ≤ rv 9 b ∧ rv 9 b = codeOf L s / 2 ^ (L.getD s 0 - 9) := by
  have e : rv 9 b = codeOf L s / 2 ^ (L.getD s 0 - 9) := by
    have := rv_top 9 (L.getD s 0 - 9) b; rw [Nat.add_sub_cancel' (by omega), hh.2.2] at this; exact this.symm
  obtain ⟨t1, t2⟩ := long_top h15 hK hh.1 h9; have e9 : rv 9 (b % 512) = rv 9 b := rv_mod 9 b; rw [h.no (b % 512) (Nat.mod_lt _ (by decide)) fun s' hs' hs9 hh' => by
    have := (hit_mod (L := L) (s := s') (b := b) (n := 9) hs9).1 hh'; have := hit_unique h15 hh this; subst this; omega]
  refine ⟨?_, by omega, e⟩; unfold base; rw [e9, if_pos ⟨Nat.lt_of_lt_of_le h9 (mx_all L s), by omega⟩]
end Go.Proofs.YtpbahgddoamhgaaGreatDoor.Pu
namespace Go.Proofs.YtpbahgddoamhgaaGreatDoor
open Go Sx Pu
set_option maxRecDepth 10000

theorem huf_of {L : List Nat} {ch : List Nat} {mask : Nat} {tabs : List (List Nat)} (h15 : ∀ x ∈ L, x ≤ 15) (hL : L.length ≤ 320) (hok : okCode L = true) (hC : CI L L.length ch) (hm : mask < 2 ^ 32)
    (hT : 9 < mx L L.length → mask = 2 ^ (mx L L.length - 9) - 1 ∧ TI L L.length (2 ^ (mx L L.length - 9)) tabs) : Huf ch mask tabs L := by
  obtain ⟨hK, hgood⟩ := okCode_le h15 hok; have hM15 := mx_le h15 L.length; have hand : 9 < mx L L.length → ∀ b, b / 2 ^ 9 &&& mask = b / 2 ^ 9 % 2 ^ (mx L L.length - 9) := fun h b => by
    rw [(hT h).1, Nat.and_two_pow_sub_one_eq_mod]
  have hshort : ∀ b s, Hit L s b → L.getD s 0 ≤ 9 → ch.getD (b % 2 ^ 9) 0 = s * 16 + L.getD s 0 := fun b s hh h9 =>
    hC.hit _ (Nat.mod_lt _ (by decide)) s hh.1 h9 ((hit_mod h9).2 hh)
  have hnone : ∀ b, (∀ s, L.getD s 0 ≤ 9 → ¬ Hit L s b) → ch.getD (b % 2 ^ 9) 0 = base L (b % 2 ^ 9) := fun b hn =>
    hC.no _ (Nat.mod_lt _ (by decide)) fun s _ h9 hh => hn s h9 ((hit_mod h9).1 hh)
  have hcase : ∀ b, (∃ s, L.getD s 0 ≤ 9 ∧ Hit L s b ∧ ch.getD (b % 2 ^ 9) 0 = s * 16 + L.getD s 0) ∨ ((∀ s, L.getD s 0 ≤ 9 → ¬ Hit L s b) ∧ ch.getD (b % 2 ^ 9) 0 = base L (b % 2 ^ 9)) := fun b => by
    rcases Classical.em (∃ s, L.getD s 0 ≤ 9 ∧ Hit L s b) with ⟨s, h1, h2⟩ | h
    · exact .inl ⟨s, h1, h2, hshort b s h2 h1⟩
    · exact .inr ⟨fun s h1 h2 => h ⟨s, h1, h2⟩, hnone b fun s h1 h2 => h ⟨s, h1, h2⟩⟩
  have hbase : ∀ b, base L (b % 2 ^ 9) = 0 ∨ (9 < mx L L.length ∧ cn L 9 ≤ rv 9 b ∧ base L (b % 2 ^ 9) = (rv 9 b - cn L 9) * 16 + 10) := fun b => by
    unfold base; rw [rv_mod]; by_cases h : 9 < mx L L.length ∧ cn L 9 ≤ rv 9 b
    · rw [if_pos h]; exact .inr ⟨h.1, h.2, rfl⟩
    · rw [if_neg h]; exact .inl rfl
  have hs320 : ∀ s b, Hit L s b → s < 320 ∧ L.getD s 0 ≤ 15 := fun s b h => ⟨Nat.lt_of_lt_of_le h.1 hL, getD_le h15 s⟩; have hr9 : ∀ b, rv 9 b < 512 := fun b => rv_lt 9 b
  -- a long code
  have hlong : ∀ b, 9 < ch.getD (b % 2 ^ 9) 0 % 2 ^ 4 → (∀ s, L.getD s 0 ≤ 9 → ¬ Hit L s b) ∧ 9 < mx L L.length ∧ cn L 9 ≤ rv 9 b ∧ ch.getD (b % 2 ^ 9) 0 / 2 ^ 4 = rv 9 b - cn L 9 := fun b h => by
    rcases hcase b with ⟨s, h1, h2, h3⟩ | ⟨h1, h2⟩
    · rw [h3] at h; omega
    · rcases hbase b with h3 | ⟨h3, h4, h5⟩
      · rw [h2, h3] at h; simp at h
      · exact ⟨h1, h3, h4, by rw [h2, h5]; omega⟩
  have hidx : ∀ b, rv 9 (cn L 9 + (rv 9 b - cn L 9)) + 512 * (b / 2 ^ 9 % 2 ^ (mx L L.length - 9)) = b % 2 ^ (mx L L.length) ∨ ¬ (9 < mx L L.length ∧ cn L 9 ≤ rv 9 b) := fun b => by
    by_cases h : 9 < mx L L.length ∧ cn L 9 ≤ rv 9 b
    · left; rw [Nat.add_sub_cancel' h.2, ← rv_mod 9 b, rv_rv 9 _ (Nat.mod_lt _ (by decide))]; have e : 2 ^ mx L L.length = 2 ^ 9 * 2 ^ (mx L L.length - 9) := by rw [← Nat.pow_add]; congr 1; omega
      rw [e, Nat.mod_mul]
    · exact .inr h
  have hlook : ∀ b, (∃ s, Hit L s b) → ∀ s, Hit L s b → look ch mask tabs b = s * 16 + L.getD s 0 := fun b _ s hh => by
    unfold look; by_cases h9 : L.getD s 0 ≤ 9
    · rw [hshort b s hh h9, if_neg (by omega)]
    · have hM : 9 < mx L L.length := Nat.lt_of_lt_of_le (by omega) (mx_all L s); obtain ⟨e1, e2, e3⟩ := hC.long_at h15 hK hh (by omega); obtain ⟨t1, t2⟩ := hT hM; have e1' : ch.getD (b % 2 ^ 9) 0 = (rv 9 b - cn L 9) * 16 + 10 := e1; have hv : rv 9 b - cn L 9 < tabs.length := by rw [t2.len]; have := hr9 b; omega
      rw [e1', if_pos (by omega), show ((rv 9 b - cn L 9) * 16 + 10) / 2 ^ 4 = rv 9 b - cn L 9 by omega, hand hM]; refine t2.hit _ hv _ (Nat.mod_lt _ (Nat.two_pow_pos _)) s hh.1 (by omega) ?_; rcases hidx b with h | h
      · rw [h]; exact (hit_mod (mx_all L s)).2 hh
      · exact absurd ⟨hM, e2⟩ h
  have hl0 : ∀ b, (∀ s, ¬ Hit L s b) → look ch mask tabs b = 0 := fun b hn => by
    have hM : ¬ 9 < mx L L.length := by
      rcases hgood with h | h
      · obtain ⟨s, hs⟩ := hit_exists h15 h b; exact absurd hs (hn s)
      · omega
    have hc : ch.getD (b % 2 ^ 9) 0 = 0 := by
      rw [hnone b fun s _ => hn s]; rcases hbase b with h | ⟨h, _⟩
      · exact h
      · exact absurd h hM
    unfold look; rw [hc]; rfl
  refine ⟨h15, hL, hm, fun i => ?_, fun b => ?_, fun b hb h9 => ?_, fun s b hh => hlook b ⟨s, hh⟩ s hh, fun b hn => by rw [hl0 b hn], ?_⟩
  · rcases Nat.lt_or_ge i 512 with hi | hi
    · have e : i % 2 ^ 9 = i := Nat.mod_eq_of_lt hi; rcases hcase i with ⟨s, h1, h2, h3⟩ | ⟨_, h2⟩
      · rw [e] at h3; rw [h3]; have := hs320 s i h2; omega
      · rw [e] at h2; rw [h2]; have h4 := hbase i; rw [e] at h4; have := hr9 i; rcases h4 with h4 | ⟨_, _, h4⟩ <;> rw [h4] <;> omega
    · rw [List.getD_eq_getElem?_getD, List.getElem?_eq_none (by rw [hC.len]; exact hi)]; decide
  · rcases Classical.em (∃ s, Hit L s b) with ⟨s, hs⟩ | h
    · rw [hlook b ⟨s, hs⟩ s hs]; have := hs320 s b hs; omega
    · rw [hl0 b fun s hs => h ⟨s, hs⟩]; decide
  · obtain ⟨_, hM, h4, h5⟩ := hlong b h9; obtain ⟨_, t2⟩ := hT hM; have hv : rv 9 b - cn L 9 < tabs.length := by rw [t2.len]; have := hr9 b; omega
    rw [h5, hand hM, t2.each _ hv]; exact ⟨hv, Nat.mod_lt _ (Nat.two_pow_pos _)⟩
  · rcases hgood with h | h
    · exact .inl (hit_exists h15 h)
    · exact .inr fun i => Nat.le_trans (mx_all L i) h
end Go.Proofs.YtpbahgddoamhgaaGreatDoor
namespace Go.Proofs.YtpbahgddoamhgaaGreatDoor
open Go.Proofs.Tryz
open Go Sx Pu
set_option maxRecDepth 10000

/-- a table among other cells -/
def hcl (A : List Value) (min : Nat) (ch : List Nat) (lv : Value) (mask : Nat) (Z : List Value) : List Value := A ++ ((iV min :: (ch.map wV ++ [lv, wV mask])) ++ Z)
section
variable {A Z : List Value} {min mask q : Nat} {ch : List Nat} {lv v : Value}
theorem hcl_min (hA : A.length = q) : (hcl A min ch lv mask Z)[q]? = some (iV min) := by
  unfold hcl; rw [List.getElem?_append_right (by omega), hA, Nat.sub_self]; rfl
theorem hcl_at (hA : A.length = q) (hc : ch.length = 512) {i : Nat} (hi : i < 515) : (hcl A min ch lv mask Z)[q + i]? = (iV min :: (ch.map wV ++ [lv, wV mask]))[i]? := by
  unfold hcl; rw [List.getElem?_append_right (by omega), hA, Nat.add_sub_cancel_left, List.getElem?_append_left (by simp [hc]; omega)]
theorem hcl_ch (hA : A.length = q) (hc : ch.length = 512) {i : Nat} (hi : i < 512) : (hcl A min ch lv mask Z)[q + 1 + i]? = some (wV (ch.getD i 0)) := by
  rw [Nat.add_assoc, hcl_at hA hc (by omega), Nat.add_comm 1, List.getElem?_cons_succ, List.getElem?_append_left (by simp [hc]; exact hi), List.getElem?_map, List.getElem?_eq_getElem (by omega), getD_in (by omega)]; rfl
theorem hcl_links (hA : A.length = q) (hc : ch.length = 512) : (hcl A min ch lv mask Z)[q + 513]? = some lv := by
  rw [hcl_at hA hc (by omega), List.getElem?_cons_succ, List.getElem?_append_right (by simp [hc])]; simp [hc]
theorem hcl_mask (hA : A.length = q) (hc : ch.length = 512) : (hcl A min ch lv mask Z)[q + 514]? = some (wV mask) := by
  rw [hcl_at hA hc (by omega), List.getElem?_cons_succ, List.getElem?_append_right (by simp [hc])]; simp [hc]
theorem hcl_length (hA : A.length = q) (hc : ch.length = 512) : q + 515 ≤ (hcl A min ch lv mask Z).length := by simp [hcl, hA, hc]; omega
theorem hcl_setA (hA : A.length = q) (hc : ch.length = 512) {i : Nat} (hi : i < 515) : (hcl A min ch lv mask Z).set (q + i) v = A ++ ((iV min :: (ch.map wV ++ [lv, wV mask])).set i v ++ Z) := by
  unfold hcl; rw [List.set_append, if_neg (by omega), hA, Nat.add_sub_cancel_left, List.set_append, if_pos (by simp [hc]; omega)]
theorem hcl_set_min (hA : A.length = q) (hc : ch.length = 512) {m : Nat} : (hcl A min ch lv mask Z).set q (iV m) = hcl A m ch lv mask Z := by
  have := hcl_setA (v := iV m) (min := min) (lv := lv) (mask := mask) (Z := Z) hA hc (i := 0) (by omega); rw [Nat.add_zero] at this; rw [this]; rfl
theorem hcl_set_ch (hA : A.length = q) (hc : ch.length = 512) {i m : Nat} (hi : i < 512) : (hcl A min ch lv mask Z).set (q + 1 + i) (wV m) = hcl A min (ch.set i m) lv mask Z := by
  rw [Nat.add_assoc, hcl_setA hA hc (by omega), Nat.add_comm 1, List.set_cons_succ, List.set_append, if_pos (by simp [hc]; exact hi), ← List.map_set]; rfl
theorem hcl_set_links (hA : A.length = q) (hc : ch.length = 512) : (hcl A min ch lv mask Z).set (q + 513) v = hcl A min ch v mask Z := by
  rw [hcl_setA hA hc (by omega), List.set_cons_succ, List.set_append, if_neg (by simp [hc])]; simp [hc, hcl]
theorem hcl_set_mask (hA : A.length = q) (hc : ch.length = 512) {m : Nat} : (hcl A min ch lv mask Z).set (q + 514) (wV m) = hcl A min ch lv m Z := by
  rw [hcl_setA hA hc (by omega), List.set_cons_succ, List.set_append, if_neg (by simp [hc])]; simp [hc, hcl]
def zc138 : List Value := iV 0 :: ((List.replicate 512 0).map wV ++ [.slice none 0 0, wV 0])
theorem zc_length : zc138.length = 515 := by simp only [zc138, List.length_cons, List.length_append, List.length_map, List.length_replicate, List.length_nil]
theorem hcl_zero (hA : A.length = q) (hc : ch.length = 512) : put (hcl A min ch lv mask Z) q zc138 = hcl A 0 (List.replicate 512 0) (.slice none 0 0) 0 Z := by
  have e : (iV min :: (ch.map wV ++ [lv, wV mask])).length = 515 := by simp [hc]
  unfold put; rw [zc_length]; unfold hcl; have e1 : List.drop (q + 515) (A ++ ((iV min :: (ch.map wV ++ [lv, wV mask])) ++ Z)) = Z := by
    rw [List.drop_append, List.drop_eq_nil_of_le (by omega), List.nil_append, hA, Nat.add_sub_cancel_left, List.drop_left' e]
  rw [List.take_left' hA, e1, List.append_assoc]; rfl
theorem zc_one : ∀ v ∈ zc138, one v = true := by
  intro v hv; simp only [zc138, List.mem_cons, List.mem_append, List.mem_map, List.mem_replicate, List.not_mem_nil, or_false] at hv; rcases hv with rfl | ⟨_, _, rfl⟩ | rfl | rfl <;> rfl
end
theorem zv181 (w : World) : (zeroValue 181).run Tryz.prog w = .ok (.agg (List.toArray ((List.replicate 16 0).map iV))) w := zeroValue181 w
/-- the second tables, block by block -/
def ltH (lt : List (Nat × List Nat)) : Hl := lt.map fun x => (x.1, Obj.cells (List.toArray (x.2.map wV)) 29 (0, 0))
theorem ltH_set {lt : List (Nat × List Nat)} {v b : Nat} {t : List Nat} : (ltH lt).set v (b, Obj.cells (List.toArray (t.map wV)) 29 (0, 0)) = ltH (lt.set v (b, t)) := by
  unfold ltH; rw [List.map_set]
theorem set_same {α : Type} {l : List α} {i : Nat} {x : α} (h : l[i]? = some x) : l.set i x = l := by
  apply List.ext_getElem?; intro j; rw [List.getElem?_set]
  split
  · rename_i e; subst e; have : i < l.length := (List.getElem?_eq_some_iff.1 h).1; rw [if_pos this, h]
  · rfl
theorem ltH_at {lt : List (Nat × List Nat)} {v b : Nat} {t : List Nat} (h : v < lt.length) : (ltH (lt.set v (b, t)))[v]? = some (b, Obj.cells (List.toArray (t.map wV)) 29 (0, 0)) := by
  unfold ltH; rw [List.getElem?_map, List.getElem?_set_self h]; rfl
abbrev sbV (nl b : Nat) : Value := .slice (some ⟨b, 0, none⟩) nl nl
theorem cntL_zero (L : List Nat) : cntL L 0 = List.replicate 16 0 := by
  unfold cntL; apply List.ext_getElem
  · rw [List.length_map, List.length_range, List.length_replicate]
  · intro i h1 h2; rw [List.getElem_map, List.getElem_replicate]; simp only [rank]
    split <;> rfl
theorem nxtL_zero (L : List Nat) : nxtL L (mn L L.length) = List.replicate 16 0 := by
  unfold nxtL; apply List.ext_getElem
  · rw [List.length_map, List.length_range, List.length_replicate]
  · intro i h1 h2; rw [List.getElem_map, List.getElem_replicate, List.getElem_range, if_neg (by omega)]
theorem row_set {nl b i n : Nat} {bs : List Nat} (h : bs.length = i) : (bs.map (sbV nl) ++ List.replicate (n + 1) (Value.slice none 0 0)).set i (.slice (some ⟨b, 0, none⟩) nl nl) = (bs ++ [b]).map (sbV nl) ++ List.replicate n (.slice none 0 0) := by
  rw [List.set_append, if_neg (by simp; omega), List.length_map, h, Nat.sub_self, List.replicate_succ, List.set_cons_zero]; simp
theorem CI.empty {L : List Nat} (h : mx L L.length = 0) : ∀ k, CI L k (List.replicate 512 0)
  | 0 => CI.short (by omega)
  | k + 1 => (CI.empty h k).same (.inl (by have := mx_all L k; omega))
theorem chJ_zero {L : List Nat} : chJ L (cn L 9) = List.replicate 512 0 := by
  unfold chJ; apply List.ext_getElem
  · rw [List.length_map, List.length_range, List.length_replicate]
  · intro i h1 h2; rw [List.getElem_map, List.getElem_replicate, List.getElem_range, if_neg (by omega)]
theorem perm1 {α : Type} {x y : α} {P Q : List α} : (P ++ x :: y :: Q).Perm ((y :: (P ++ Q)) ++ [x]) := by
  refine (List.perm_middle.trans ?_).trans (List.perm_append_singleton x _).symm; exact List.perm_middle.cons x
theorem lk_of {L : List Nat} {lb nl : Nat} {bs : List Nat} {lt : List (Nat × List Nat)} {k : Nat} (hb : lt.map Prod.fst = bs) (hT : TI L k nl (lt.map Prod.snd)) : LK ([(lb, Obj.cells (List.toArray (bs.map (sbV nl))) 183 (0, 0))] ++ ltH lt) (.slice (some ⟨lb, 0, none⟩) bs.length bs.length) (lt.map Prod.snd) := fun _ => by
  have hl : bs.length = (lt.map Prod.snd).length := by rw [← hb]; simp
  refine ⟨lb, bs.map (sbV nl), bs.length, 183, _, by rw [hl], AtH.here, fun j hj => ?_⟩; have hj2 : j < lt.length := by simpa using hj
  have he := hT.each j hj; rw [getD_in hj] at he; refine ⟨lt[j].1, nl, 29, _, ?_, AtH.there (h := AtH.idx (v := j) ?_)⟩
  · rw [he, ← hb]; simp [hj2]
  · unfold ltH; simp [hj2]

section
variable {p : Option Addr} {cap hb q : Nat} {L ch : List Nat} {D : Hl} {A Z : List Value} {min mask : Nat} {lv : Value} {ty : TypeId}
set_option maxHeartbeats 4000000 in
theorem init_spec (hd : DatI p L D) (hL : L.length ≤ 320) (h15 : ∀ x ∈ L, x ≤ 15) (hA : A.length = q) (hc : ch.length = 512) (hz : min = 0 → ch = List.replicate 512 0) (hmk : mask < 2 ^ 32) :
    CallsL Tryz.prog 78 #[.pointer (some ⟨hb, q, none⟩), .slice p L.length cap] ((hb, .cells (List.toArray (hcl A min ch lv mask Z)) ty (0, 0)) :: D) fun v H' =>
      (okCode L = false ∧ v = .bool false ∧ ∃ lv' mask', mask' < 2 ^ 32 ∧ H' = (hb, .cells (List.toArray (hcl A 0 (List.replicate 512 0) lv' mask' Z)) ty (0, 0)) :: D) ∨
      (okCode L = true ∧ v = .bool true ∧ ∃ ch' lv' mask' tabs G, H' = (hb, .cells (List.toArray (hcl A (mn L L.length) ch' lv' mask' Z)) ty (0, 0)) :: (G ++ D) ∧
        ch'.length = 512 ∧ (mn L L.length = 0 → ch' = List.replicate 512 0) ∧ LK G lv' tabs ∧ Huf ch' mask' tabs L) := by
  have hM15 := mx_le h15 L.length; refine CallsL_of func78 rfl ntmps78 rfl ?_
  try dsimp only [initE, Nat.zero_add]
  refine W_seq fun K1 hK1 => ?_; refine W_region ?_; refine xa rfl rfl ?_; refine WO_nil (sq_n (hK1 _ _ ?_)); refine W_seq_mid (fun E H => Sub E [(0, .pointer (some ⟨hb, q, none⟩)), (1, .slice p L.length cap)] ∧ ∃ lv mask, mask < 2 ^ 32 ∧ H = (hb, .cells (List.toArray (hcl A 0 (List.replicate 512 0) lv mask Z)) ty (0, 0)) :: D) ?_ ?_
  · refine W_seq fun K3 hK3 => ?_; refine W_region ?_; refine xm rfl rfl ?_; refine xn rfl rfl ?_; refine xp (v_fa (q := 0) rfl underlying138 rfl rfl sizeOf3 rfl) rfl ?_; refine xv (v_ld rfl rfl isAgg3 (hcl_min hA)) rfl ?_; refine xp (n_ne rfl rfl rfl) rfl ?_; refine WO_nil (sq_n (hK3 _ _ ?_)); refine W.keep [0,1,4,38] rfl ?_; refine W_cond rfl (fun hc0 => ?_) (fun hc0 => ?_)
    · replace hc0 := of_decide_eq_true hc0; refine W_region ?_; refine xm rfl rfl ?_; refine xp (v_any (.agg (List.toArray zc138)) rfl rfl (by intro w; kernel_rfl)) rfl ?_; refine xn rfl rfl ?_; refine wsn (v_sta rfl rfl rfl sizeOf138 zc_length zc_one (hcl_zero hA hc) (by rw [zc_length]; exact hcl_length hA hc)) rfl rfl ?_; rintro _ _ ⟨rfl, rfl⟩; refine WO_nil (sq_n (?_)); first
      | (have hq : ¬ min = 0 := hc0; exact ⟨⟨rfl, rfl, trivial⟩, _, _, by decide, rfl⟩)
      | exact ⟨⟨rfl, rfl, trivial⟩, _, _, hmk, rfl⟩
    · replace hc0 := of_decide_eq_false hc0; obtain rfl : min = 0 := by omega
      obtain rfl := hz rfl; refine W_skip (sq_n (?_)); first
      | (have hq : ¬ min = 0 := hc0; exact ⟨⟨rfl, rfl, trivial⟩, _, _, by decide, rfl⟩)
      | exact ⟨⟨rfl, rfl, trivial⟩, _, _, hmk, rfl⟩
  · clear hmk; rintro E H ⟨hE, lv, mask, hmk, rfl⟩; refine W.env hE ?_; refine W_seq fun K4 hK4 => ?_; refine W_region ?_; refine wf (v_ala rfl zv181) rfl rfl rfl ?_; intro b5 _; refine WO_nil (sq_n (hK4 _ _ ?_)); refine W_seq fun K5 hK5 => ?_; refine W_region ?_; refine xa rfl rfl ?_; refine xa rfl rfl ?_; refine WO_nil (sq_n (hK5 _ _ ?_)); refine W_seq fun K6 hK6 => ?_; refine W_seq fun K7 hK7 => ?_; refine W_region ?_; refine xm rfl rfl ?_; refine xp (v_len rfl underlying23 rfl) rfl ?_; refine xm rfl rfl ?_; refine WO_nil (sq_n (hK7 _ _ ?_)); refine W_block ?_
    refine W_loop (fun m E H => ∃ k, k ≤ L.length ∧ m = L.length - k ∧ Sub E [(0, .pointer (some ⟨hb, q, none⟩)), (1, .slice p L.length cap), (5, .pointer (some ⟨b5, 0, none⟩)), (6, iV (mn L k)), (7, iV (mx L k)), (42, .slice p L.length cap), (43, iV L.length), (44, iV k)] ∧ H = (b5, .cells (List.toArray ((cntL L k).map iV)) 181 (0, 0)) :: (hb, .cells (List.toArray (hcl A 0 (List.replicate 512 0) lv mask Z)) ty (0, 0)) :: D) (m := _) (⟨0, by omega, rfl, ⟨rfl, rfl, rfl, rfl, rfl, rfl, rfl, rfl, trivial⟩, by rw [cntL_zero]⟩) ?_; rintro m E H ⟨k, hk, rfl, hE, rfl⟩; refine W.env hE ?_; refine W_seq fun K8 hK8 => ?_; refine W_region ?_; refine xp (n_lt rfl rfl rfl) rfl ?_; refine WO_nil (sq_n (hK8 _ _ ?_)); refine W_seq fun K9 hK9 => ?_; refine W_cond rfl (fun hc1 => ?_) (fun hc1 => ?_)
    · replace hc1 := of_decide_eq_true hc1; refine W_skip (sq_n (hK9 _ _ ?_)); refine W_seq fun K10 hK10 => ?_; refine W_block ?_; refine W_seq fun K11 hK11 => ?_; have hne : L ≠ [] := by intro e; subst e; exact absurd hc1 (by simp)
      obtain ⟨b2, off, c, ty2, fz, r, rfl, hat, hcc⟩ := hd hne; have hg : L.getD k 0 = L[k] := by simp [hc1]
      have hx15 := h15 _ (List.getElem_mem hc1); refine W_region ?_; refine xp (v_ixs rfl underlying23 sizeOf3 rfl rfl (by omega)) rfl ?_; refine xv (v_ld rfl rfl isAgg3 (hcc _ hc1)) rfl ?_; refine xa rfl rfl ?_; refine WO_nil (sq_n (hK11 _ _ ?_)); refine W_seq fun K12 hK12 => ?_; refine W_seq fun K13 hK13 => ?_; refine W_region ?_; refine xm rfl rfl ?_; refine xp (n_eq rfl rfl rfl) rfl ?_; refine WO_nil (sq_n (hK13 _ _ ?_)); refine W_cond rfl (fun hc2 => ?_) (fun hc2 => ?_)
      · replace hc2 := of_decide_eq_true hc2; refine W_exit (sq_x (bl_x (sq_n (hK10 _ _ ?_)))); refine W_region ?_; refine xp (n_add rfl rfl rfl kI (by omega)) rfl ?_; refine xm rfl rfl ?_; refine WO_nil (sq_n (?_)); first
        | (have hq : L[k] = 0 := hc2; exact ⟨_, by omega, k + 1, by omega, rfl, ⟨rfl, rfl, rfl, (by simp only [mn, hg, hc2, if_true]; rfl), (by simp only [mx, hg, hc2, Nat.not_lt_zero, if_false]; rfl), rfl, rfl, rfl, trivial⟩, by rw [cntL_same (by rw [hg]; exact hc2)]⟩)
        | (exact ⟨_, by omega, k + 1, by omega, rfl, ⟨rfl, rfl, rfl, rfl, rfl, rfl, rfl, rfl, trivial⟩, by rw [← cntL_step (by rw [hg]; exact hc2) (by rw [hg]; omega), hg]⟩)
      · replace hc2 := of_decide_eq_false hc2; refine W_skip (sq_n (hK12 _ _ ?_)); refine W_seq_mid (fun E H => Sub E [(0, .pointer (some ⟨hb, q, none⟩)), (1, .slice (some ⟨b2, off, none⟩) L.length cap), (5, .pointer (some ⟨b5, 0, none⟩)), (6, iV (mn L (k + 1))), (7, iV (mx L k)), (42, .slice (some ⟨b2, off, none⟩) L.length cap), (43, iV L.length), (44, iV k), (9, iV L[k])] ∧ H = (b5, .cells (List.toArray ((cntL L k).map iV)) 181 (0, 0)) :: (hb, .cells (List.toArray (hcl A 0 (List.replicate 512 0) lv mask Z)) ty (0, 0)) :: D) ?_ ?_
        · refine W_seq fun K15 hK15 => ?_; by_cases hm0 : mn L k = 0
          · refine W_region ?_; refine xm rfl rfl ?_; refine xp (v_eq rfl rfl rfl (dT (by omega))) rfl ?_; refine xm rfl rfl ?_; refine xno rfl ?_; refine xno rfl ?_; refine xno rfl ?_; refine xp (v_pt rfl rfl rfl) rfl ?_; refine WO_nil (sq_n (hK15 _ _ ?_)); refine W_cond_t rfl ?_; refine W_region ?_; refine xm rfl rfl ?_; refine xa rfl rfl ?_; refine WO_nil (sq_n (?_)); refine ⟨⟨rfl, rfl, rfl, ?_, rfl, rfl, rfl, rfl, rfl, trivial⟩, rfl⟩; simp only [mn, hg, if_neg hc2]
            split
            · first | rfl | (exfalso; omega)
            · first | rfl | (exfalso; omega)
          · refine W_region ?_; refine xm rfl rfl ?_; refine xp (v_eq rfl rfl rfl (dF (by omega))) rfl ?_; refine xm rfl rfl ?_; refine xm rfl rfl ?_; refine xm rfl rfl ?_; refine xp (n_lt rfl rfl rfl) rfl ?_; refine xp (v_pf rfl rfl rfl) rfl ?_; refine WO_nil (sq_n (hK15 _ _ ?_)); refine W_cond rfl (fun hc3 => ?_) (fun hc3 => ?_)
            · replace hc3 := of_decide_eq_true hc3; refine W_region ?_; refine xm rfl rfl ?_; refine xa rfl rfl ?_; refine WO_nil (sq_n (?_)); refine ⟨⟨rfl, rfl, rfl, ?_, rfl, rfl, rfl, rfl, rfl, trivial⟩, rfl⟩; simp only [mn, hg, if_neg hc2]
              split
              · first | rfl | (exfalso; omega)
              · first | rfl | (exfalso; omega)
            · replace hc3 := of_decide_eq_false hc3; refine W_skip (sq_n (?_)); refine ⟨⟨rfl, rfl, rfl, ?_, rfl, rfl, rfl, rfl, rfl, trivial⟩, rfl⟩; simp only [mn, hg, if_neg hc2]
              split
              · first | rfl | (exfalso; omega)
              · first | rfl | (exfalso; omega)
        · rintro E H ⟨hE, rfl⟩; refine W.env hE ?_; refine W_seq_mid (fun E H => Sub E [(0, .pointer (some ⟨hb, q, none⟩)), (1, .slice (some ⟨b2, off, none⟩) L.length cap), (5, .pointer (some ⟨b5, 0, none⟩)), (6, iV (mn L (k + 1))), (7, iV (mx L (k + 1))), (42, .slice (some ⟨b2, off, none⟩) L.length cap), (43, iV L.length), (44, iV k), (9, iV L[k])] ∧ H = (b5, .cells (List.toArray ((cntL L k).map iV)) 181 (0, 0)) :: (hb, .cells (List.toArray (hcl A 0 (List.replicate 512 0) lv mask Z)) ty (0, 0)) :: D) ?_ ?_
          · refine W_seq fun K17 hK17 => ?_; refine W_region ?_; refine xm rfl rfl ?_; refine xm rfl rfl ?_; refine xp (n_gt rfl rfl rfl) rfl ?_; refine WO_nil (sq_n (hK17 _ _ ?_)); refine W_cond rfl (fun hc4 => ?_) (fun hc4 => ?_)
            · replace hc4 := of_decide_eq_true hc4; refine W_region ?_; refine xm rfl rfl ?_; refine xa rfl rfl ?_; refine WO_nil (sq_n (?_)); refine ⟨⟨rfl, rfl, rfl, rfl, ?_, rfl, rfl, rfl, rfl, trivial⟩, rfl⟩; simp only [mx, hg]
              split
              · first | rfl | (exfalso; omega)
              · first | rfl | (exfalso; omega)
            · replace hc4 := of_decide_eq_false hc4; refine W_skip (sq_n (?_)); refine ⟨⟨rfl, rfl, rfl, rfl, ?_, rfl, rfl, rfl, rfl, trivial⟩, rfl⟩; simp only [mx, hg]
              split
              · first | rfl | (exfalso; omega)
              · first | rfl | (exfalso; omega)
          · rintro E H ⟨hE, rfl⟩; refine W.env hE ?_; have hcl16 : (cntL L k).length = 16 := by simp [cntL]
            have hcg : (cntL L k).getD L[k] 0 = rank L L[k] k := cntL_get (by omega) hc2; have hrk := rank_le L L[k] k; have hcell : ((cntL L k).map iV)[L[k]]? = some (iV ((cntL L k).getD L[k] 0)) := by rw [List.getElem?_map, List.getElem?_eq_getElem (by omega), getD_in (by omega)]; rfl
            refine W_region ?_; refine xm rfl rfl ?_; refine xp (v_ixa rfl underlying181 sizeOf3 rfl rfl (by omega)) rfl ?_; refine xv (v_ld rfl rfl isAgg3 hcell) rfl ?_; refine xp (n_add rfl rfl rfl kI (by omega)) rfl ?_; refine xp (v_ixa rfl underlying181 sizeOf3 rfl rfl (by omega)) rfl ?_; refine wst' rfl rfl rfl sizeOf3 rfl (List.map_set (f := iV)).symm (by simp only [List.length_map]; omega) rfl rfl ?_; refine WO_nil (bl_n (sq_n (hK10 _ _ ?_))); refine W_region ?_; refine xp (n_add rfl rfl rfl kI (by omega)) rfl ?_; refine xm rfl rfl ?_; refine WO_nil (sq_n (?_)); first
            | (have hq : L[k] = 0 := hc2; exact ⟨_, by omega, k + 1, by omega, rfl, ⟨rfl, rfl, rfl, (by simp only [mn, hg, hc2, if_true]; rfl), (by simp only [mx, hg, hc2, Nat.not_lt_zero, if_false]; rfl), rfl, rfl, rfl, trivial⟩, by rw [cntL_same (by rw [hg]; exact hc2)]⟩)
            | (exact ⟨_, by omega, k + 1, by omega, rfl, ⟨rfl, rfl, rfl, rfl, rfl, rfl, rfl, rfl, trivial⟩, by rw [← cntL_step (by rw [hg]; exact hc2) (by rw [hg]; omega), hg]⟩)
    · replace hc1 := of_decide_eq_false hc1; obtain rfl : k = L.length := by omega
      refine W_exit (sq_x (sq_x (bl_x (sq_n (hK6 _ _ ?_))))); refine W.keep [0,1,5,6,7] rfl ?_; refine W_seq fun K18 hK18 => ?_; refine W_seq fun K19 hK19 => ?_; refine W_region ?_; refine xm rfl rfl ?_; refine xp (n_eq rfl rfl rfl) rfl ?_; refine WO_nil (sq_n (hK19 _ _ ?_)); refine W_cond rfl (fun hc5 => ?_) (fun hc5 => ?_)
      · replace hc5 := of_decide_eq_true hc5; refine W_seq fun K20 hK20 => ?_; refine W.drop (.skip .all) ?_; refine W_region ?_; refine xa rfl rfl ?_; refine WO_nil (sq_n (hK20 _ _ ?_)); refine W_ret (sq_r (ret_of (v := _) rfl ?_)); refine .inr ⟨?_, rfl, List.replicate 512 0, lv, mask, [], [], ?_, List.length_replicate, fun _ => rfl, fun h => absurd rfl h, ?_⟩
        · simp [okCode, (kmany_zero L.length).2 hc5]
        · have : mn L L.length = 0 := by have := (mn_spec L L.length).2.2; omega
          rw [this]; rfl
        · exact huf_of h15 hL (by simp [okCode, (kmany_zero L.length).2 hc5]) (CI.empty hc5 _) hmk (fun h => by omega)
      · replace hc5 := of_decide_eq_false hc5; refine W_skip (sq_n (hK18 _ _ ?_)); refine W_seq fun K21 hK21 => ?_; refine W_region ?_; refine xa rfl rfl ?_; refine WO_nil (sq_n (hK21 _ _ ?_)); refine W_seq fun K22 hK22 => ?_; refine W_region ?_; refine wf (v_ala rfl zv181) rfl rfl rfl ?_; intro b11 _; refine WO_nil (sq_n (hK22 _ _ ?_)); refine W_seq fun K23 hK23 => ?_; refine W_seq fun K24 hK24 => ?_; have hmp := mn_pos hc5; have hmm := (mn_spec L L.length).2.2; have hcn0 : cn L (mn L L.length - 1) = 0 := cn_min (mn_all L) _ (by omega); refine W_region ?_; refine xm rfl rfl ?_; refine xa rfl rfl ?_; refine WO_nil (sq_n (hK24 _ _ ?_)); refine W.keep [0,1,5,6,7,10,11,12] rfl ?_; refine W_block ?_
        refine W_loop (fun m E H => ∃ i, mn L L.length ≤ i ∧ i ≤ mx L L.length + 1 ∧ m = mx L L.length + 1 - i ∧ Sub E [(0, .pointer (some ⟨hb, q, none⟩)), (1, .slice p L.length cap), (5, .pointer (some ⟨b5, 0, none⟩)), (6, iV (mn L L.length)), (7, iV (mx L L.length)), (10, iV (cn L (i - 1))), (11, .pointer (some ⟨b11, 0, none⟩)), (12, iV i)] ∧ H = (b11, .cells (List.toArray ((nxtL L i).map iV)) 181 (0, 0)) :: (b5, .cells (List.toArray ((cntL L L.length).map iV)) 181 (0, 0)) :: (hb, .cells (List.toArray (hcl A 0 (List.replicate 512 0) lv mask Z)) ty (0, 0)) :: D) (m := _) (⟨mn L L.length, Nat.le_refl _, by omega, rfl, ⟨rfl, rfl, rfl, rfl, rfl, (by rw [hcn0]; rfl), rfl, rfl, trivial⟩, by rw [nxtL_zero]⟩) ?_; rintro m E H ⟨i, hi1, hi2, rfl, hE, rfl⟩; refine W.env hE ?_; refine W_seq fun K25 hK25 => ?_; refine W_seq fun K26 hK26 => ?_; refine W_region ?_; refine xm rfl rfl ?_
        refine xm rfl rfl ?_; refine xp (n_le rfl rfl rfl) rfl ?_; refine WO_nil (sq_n (hK26 _ _ ?_)); refine W_cond rfl (fun hc6 => ?_) (fun hc6 => ?_)
        · replace hc6 := of_decide_eq_true hc6; refine W_skip (sq_n (hK25 _ _ ?_)); refine W_seq fun K27 hK27 => ?_; refine W_block ?_; refine W_seq fun K28 hK28 => ?_; have hcb := cn_bd hL (j := i - 1) (by omega); have hn16 : (nxtL L i).length = 16 := by simp [nxtL]
          have hc16 : (cntL L L.length).length = 16 := by simp [cntL]
          have hrk := rank_le L i L.length; have hcg : (cntL L L.length).getD i 0 = rank L i L.length := cntL_get (by omega) (by omega); have hcell : ((cntL L L.length).map iV)[i]? = some (iV ((cntL L L.length).getD i 0)) := by rw [List.getElem?_map, List.getElem?_eq_getElem (by omega), getD_in (by omega)]; rfl
          refine W_region ?_; refine xm rfl rfl ?_; refine xp (n_shl rfl rfl rfl kI (by decide) (by omega)) rfl ?_; refine xa rfl rfl ?_; refine WO_nil (sq_n (hK28 _ _ ?_)); refine W_seq fun K29 hK29 => ?_; refine W_region ?_; refine xm rfl rfl ?_; refine xm rfl rfl ?_; refine xp (v_ixa rfl underlying181 sizeOf3 rfl rfl (by omega)) rfl ?_; refine wst' rfl rfl rfl sizeOf3 rfl (List.map_set (f := iV)).symm (by simp only [List.length_map]; omega) rfl rfl ?_; refine WO_nil (sq_n (hK29 _ _ ?_)); refine W_region ?_; refine xm rfl rfl ?_; refine xm rfl rfl ?_; refine xp (v_ixa rfl underlying181 sizeOf3 rfl rfl (by omega)) rfl ?_; refine xv (v_ld rfl rfl isAgg3 hcell) rfl ?_; refine xp (n_add rfl rfl rfl kI (by omega)) rfl ?_; refine xa rfl rfl ?_; refine WO_nil (bl_n (sq_n (hK27 _ _ ?_))); refine W_region ?_; refine xm rfl rfl ?_; refine xp (n_add rfl rfl rfl kI (by omega)) rfl ?_
          refine xa rfl rfl ?_; refine WO_nil (sq_n (?_)); have e1 : cn L (i - 1) * 2 ^ 1 = 2 * cn L (i - 1) := by omega
          have e2 : cn L (i - 1) * 2 ^ 1 + (cntL L L.length).getD i 0 = cn L (i + 1 - 1) := by
            rw [cntL_get (by omega) (by omega)]
            conv => rhs; rw [show i + 1 - 1 = (i - 1) + 1 by omega, cn, show i - 1 + 1 = i by omega]
          rw [e2, e1, nxtL_step hi1]; exact ⟨_, by omega, i + 1, by omega, by omega, rfl, ⟨rfl, rfl, rfl, rfl, rfl, rfl, rfl, rfl, trivial⟩, rfl⟩
        · replace hc6 := of_decide_eq_false hc6; obtain rfl : i = mx L L.length + 1 := by omega
          refine W_exit (sq_x (sq_x (bl_x (sq_n (hK23 _ _ ?_))))); refine W.keep [0,1,6,7,10,11] rfl ?_; refine W_seq_mid (fun E H => okCode L = true ∧ Sub E [(0, .pointer (some ⟨hb, q, none⟩)), (1, .slice p L.length cap), (6, iV (mn L L.length)), (7, iV (mx L L.length)), (11, .pointer (some ⟨b11, 0, none⟩))] ∧ ∃ x, H = (b11, .cells (List.toArray ((nxtL L (mx L L.length + 1)).map iV)) 181 (0, 0)) :: x :: (hb, .cells (List.toArray (hcl A 0 (List.replicate 512 0) lv mask Z)) ty (0, 0)) :: D) ?_ ?_
          · refine W_seq fun K31 hK31 => ?_; have hp15 : 2 ^ mx L L.length ≤ 2 ^ 15 := Nat.pow_le_pow_right (by decide) hM15; have hiff := okCode_iff h15 hc5; rw [Nat.add_sub_cancel]; by_cases h1 : cn L (mx L L.length) = 2 ^ mx L L.length
            · have hok := hiff.2 (.inl h1); refine W_region ?_; refine xm rfl rfl ?_; refine xm rfl rfl ?_; refine xp (n_cv rfl underlying3 underlying37 rfl kU (by omega)) rfl ?_; refine xp (n_shl rfl rfl rfl kI (by show _ ≤ 64; omega) (by rw [Nat.one_mul]; omega)) rfl ?_; refine xp (v_ne rfl rfl rfl (dF (by rw [Nat.one_mul, h1]; simp))) rfl ?_; refine xm rfl rfl ?_; refine xno rfl ?_; refine xno rfl ?_; refine xno rfl ?_; refine xno rfl ?_; refine xno rfl ?_; refine xno rfl ?_; refine xno rfl ?_; refine xp (v_pf rfl rfl rfl) rfl ?_; refine WO_nil (sq_n (hK31 _ _ ?_)); refine W.keep [0,1,6,7,10,11,99] rfl ?_; refine W_cond_f rfl ?_; refine W_skip (sq_n (?_)); exact ⟨hok, ⟨rfl, rfl, rfl, rfl, rfl, trivial⟩, _, rfl⟩
            · by_cases h2 : cn L (mx L L.length) = 1
              · by_cases h3 : mx L L.length = 1
                · have hok := hiff.2 (.inr ⟨h2, h3⟩); refine W_region ?_; refine xm rfl rfl ?_; refine xm rfl rfl ?_; refine xp (n_cv rfl underlying3 underlying37 rfl kU (by omega)) rfl ?_; refine xp (n_shl rfl rfl rfl kI (by show _ ≤ 64; omega) (by rw [Nat.one_mul]; omega)) rfl ?_; refine xp (v_ne rfl rfl rfl (dT (by rw [Nat.one_mul]; exact fun e => h1 (by exact_mod_cast e)))) rfl ?_; refine xm rfl rfl ?_; refine xm rfl rfl ?_; refine xp (v_eq rfl rfl rfl (dT (by omega))) rfl ?_; refine xm rfl rfl ?_; refine xm rfl rfl ?_; refine xp (v_eq rfl rfl rfl (dT (by omega))) rfl ?_; refine xp (v_pt rfl rfl rfl) rfl ?_; refine xp (v_not rfl rfl rfl) rfl ?_; refine xp (v_pt rfl rfl rfl) rfl ?_; refine WO_nil (sq_n (hK31 _ _ ?_)); refine W.keep [0,1,6,7,10,11,99] rfl ?_; refine W_cond_f rfl ?_; refine W_skip (sq_n (?_)); exact ⟨hok, ⟨rfl, rfl, rfl, rfl, rfl, trivial⟩, _, rfl⟩
                · have hno : okCode L = false := by
                    cases h : okCode L
                    · rfl
                    · rcases hiff.1 h with h | h
                      · exact absurd h h1
                      · exact absurd h.2 h3
                  refine W_region ?_; refine xm rfl rfl ?_; refine xm rfl rfl ?_; refine xp (n_cv rfl underlying3 underlying37 rfl kU (by omega)) rfl ?_; refine xp (n_shl rfl rfl rfl kI (by show _ ≤ 64; omega) (by rw [Nat.one_mul]; omega)) rfl ?_; refine xp (v_ne rfl rfl rfl (dT (by rw [Nat.one_mul]; exact fun e => h1 (by exact_mod_cast e)))) rfl ?_; refine xm rfl rfl ?_; refine xm rfl rfl ?_; refine xp (v_eq rfl rfl rfl (dT (by omega))) rfl ?_; refine xm rfl rfl ?_; refine xm rfl rfl ?_; refine xp (v_eq rfl rfl rfl (dF (by omega))) rfl ?_; refine xp (v_pt rfl rfl rfl) rfl ?_; refine xp (v_not rfl rfl rfl) rfl ?_; refine xp (v_pt rfl rfl rfl) rfl ?_; refine WO_nil (sq_n (hK31 _ _ ?_)); refine W.keep [0,1,6,7,10,11,99] rfl ?_; refine W_cond_t rfl ?_; refine W_seq fun K32 hK32 => ?_; refine W.drop (.skip (.skip .all)) ?_; refine W_region ?_; refine xa rfl rfl ?_
                  refine WO_nil (sq_n (hK32 _ _ ?_)); refine W_ret (sq_r (ret_of (v := _) rfl ?_)); exact .inl ⟨hno, rfl, lv, mask, hmk, rfl⟩
              · have hno : okCode L = false := by
                  cases h : okCode L
                  · rfl
                  · rcases hiff.1 h with h | h
                    · exact absurd h h1
                    · exact absurd h.1 h2
                refine W_region ?_; refine xm rfl rfl ?_; refine xm rfl rfl ?_; refine xp (n_cv rfl underlying3 underlying37 rfl kU (by omega)) rfl ?_; refine xp (n_shl rfl rfl rfl kI (by show _ ≤ 64; omega) (by rw [Nat.one_mul]; omega)) rfl ?_; refine xp (v_ne rfl rfl rfl (dT (by rw [Nat.one_mul]; exact fun e => h1 (by exact_mod_cast e)))) rfl ?_; refine xm rfl rfl ?_; refine xm rfl rfl ?_; refine xp (v_eq rfl rfl rfl (dF (by omega))) rfl ?_; refine xm rfl rfl ?_; refine xno rfl ?_; refine xno rfl ?_; refine xp (v_pf rfl rfl rfl) rfl ?_; refine xp (v_not rfl rfl rfl) rfl ?_; refine xp (v_pt rfl rfl rfl) rfl ?_; refine WO_nil (sq_n (hK31 _ _ ?_)); refine W.keep [0,1,6,7,10,11,99] rfl ?_; refine W_cond_t rfl ?_; refine W_seq fun K33 hK33 => ?_; refine W.drop (.skip (.skip .all)) ?_; refine W_region ?_; refine xa rfl rfl ?_; refine WO_nil (sq_n (hK33 _ _ ?_))
                refine W_ret (sq_r (ret_of (v := _) rfl ?_)); exact .inl ⟨hno, rfl, lv, mask, hmk, rfl⟩
          · rintro E H ⟨hok, hE, x, rfl⟩; refine W.less hE (.cons .here (.skip .all)) ?_; obtain ⟨hK, _⟩ := okCode_le h15 hok; have hlk512 := cn_le2 hK (j := 9) (by decide); have h512 : (List.replicate 512 0).length = 512 := List.length_replicate; refine W_seq fun K34 hK34 => ?_; refine W_region ?_; refine xm rfl rfl ?_; refine xm rfl rfl ?_; refine xn rfl rfl ?_; refine xp (v_fa (q := 0) rfl underlying138 rfl rfl sizeOf3 rfl) rfl ?_; refine wst' rfl rfl rfl sizeOf3 rfl (hcl_set_min hA h512) (by have := hcl_length (min := 0) (lv := lv) (mask := mask) (Z := Z) hA h512; omega) rfl rfl ?_; refine WO_nil (sq_n (hK34 _ _ ?_)); refine W.keep [0,1,7,11] rfl ?_
            refine W_seq_mid (fun E H => ∃ ch lks lt bs lv mask, CI L 0 ch ∧ mask < 2 ^ 32 ∧ lt.map Prod.fst = bs ∧ (9 < mx L L.length → mask = 2 ^ (mx L L.length - 9) - 1 ∧ TI L 0 (2 ^ (mx L L.length - 9)) (lt.map Prod.snd) ∧ ∃ lb, lks = [(lb, Obj.cells (List.toArray (bs.map (sbV (2 ^ (mx L L.length - 9))))) 183 (0, 0))] ∧ lv = .slice (some ⟨lb, 0, none⟩) bs.length bs.length) ∧ (¬ 9 < mx L L.length → lt = []) ∧ Sub E [(0, .pointer (some ⟨hb, q, none⟩)), (1, .slice p L.length cap), (11, .pointer (some ⟨b11, 0, none⟩))] ∧ H = lks ++ (b11, .cells (List.toArray ((nxtL L (mx L L.length + 1)).map iV)) 181 (0, 0)) :: (hb, .cells (List.toArray (hcl A (mn L L.length) ch lv mask Z)) ty (0, 0)) :: (ltH lt ++ D)) ?_ ?_
            · refine W_seq fun K36 hK36 => ?_; refine W_region ?_; refine xm rfl rfl ?_; refine xp (n_gt rfl rfl rfl) rfl ?_; refine WO_nil (sq_n (hK36 _ _ ?_)); refine W_cond rfl (fun hc8 => ?_) (fun hc8 => ?_)
              · replace hc8 := of_decide_eq_true hc8; refine W_seq fun K37 hK37 => ?_; have hp6 : 2 ^ (mx L L.length - 9) ≤ 2 ^ 6 := Nat.pow_le_pow_right (by decide) (by omega); have hp0 := Nat.two_pow_pos (mx L L.length - 9); refine W_region ?_; refine xm rfl rfl ?_; refine xp (n_cv rfl underlying3 underlying37 rfl kU (by omega)) rfl ?_; refine xp (n_sub rfl rfl rfl kU (by omega) (by omega)) rfl ?_; refine xp (n_shl rfl rfl rfl kI (by show _ ≤ 64; omega) (by rw [Nat.one_mul]; omega)) rfl ?_; refine xa rfl rfl ?_; refine WO_nil (sq_n (hK37 _ _ ?_)); refine W.keep [0,1,11,13] rfl ?_; refine W_seq fun K38 hK38 => ?_; rw [Nat.one_mul]; generalize hnl : 2 ^ (mx L L.length - 9) = nl at *; refine W_region ?_; refine xm rfl rfl ?_; refine xm rfl rfl ?_; refine xp (n_sub rfl rfl rfl kI (by omega) (by omega)) rfl ?_; refine xp (n_cv rfl underlying3 underlying29 rfl kW (by omega)) rfl ?_
                refine xn rfl rfl ?_; refine xp (v_fa (q := 514) rfl underlying138 rfl rfl sizeOf29 rfl) rfl ?_; refine wst' rfl rfl rfl sizeOf29 rfl (hcl_set_mask hA h512) (by have := hcl_length (min := mn L L.length) (lv := lv) (mask := mask) (Z := Z) hA h512; omega) rfl rfl ?_; refine WO_nil (sq_n (hK38 _ _ ?_)); refine W.keep [0,1,11,13] rfl ?_; refine W_seq fun K39 hK39 => ?_; have hn16 : (nxtL L (mx L L.length + 1)).length = 16 := by simp [nxtL]
                have hten := nxtL_ten hc8 hmp; have hcell : ((nxtL L (mx L L.length + 1)).map iV)[10]? = some (iV ((nxtL L (mx L L.length + 1)).getD 10 0)) := by rw [List.getElem?_map, List.getElem?_eq_getElem (by omega), getD_in (by omega)]; rfl
                refine W_region ?_; refine xp (v_ixa rfl underlying181 sizeOf3 rfl rfl (by omega)) rfl ?_; refine xv (v_ld rfl rfl isAgg3 hcell) rfl ?_; refine xp (n_shr rfl rfl rfl (by decide)) rfl ?_; refine xa rfl rfl ?_; refine WO_nil (sq_n (hK39 _ _ ?_)); refine W.keep [0,1,11,13,14] rfl ?_; refine W_seq fun K40 hK40 => ?_; rw [show (nxtL L (mx L L.length + 1)).getD 10 0 / 2 ^ 1 = cn L 9 from hten]; refine W_region ?_; refine xm rfl rfl ?_; refine xm rfl rfl ?_; refine xp (n_sub rfl rfl rfl kI (by omega) (by omega)) rfl ?_; refine ws (v_mk (bytes := 24) rfl underlying136 sizeOf183 typeInfo183 rfl zeroValue183 rfl rfl (by omega) (by omega) rfl rfl) rfl rfl rfl ?_; rintro _ _ ⟨lb, rfl, rfl, _⟩; refine xn rfl rfl ?_; refine xp (v_fa (q := 513) rfl underlying138 rfl rfl sizeOf136 rfl) rfl ?_
                refine wst' rfl rfl rfl sizeOf136 rfl (hcl_set_links hA h512) (by have := hcl_length (min := mn L L.length) (lv := lv) (mask := nl - 1) (Z := Z) hA h512; omega) rfl rfl ?_; refine WO_nil (sq_n (hK40 _ _ ?_)); refine W.keep [0,1,11,13,14] rfl ?_; refine W_seq fun K41 hK41 => ?_; refine W_region ?_; refine xm rfl rfl ?_; refine xp (n_cv rfl underlying3 underlying37 rfl kU (by omega)) rfl ?_; refine xa rfl rfl ?_; refine WO_nil (sq_n (hK41 _ _ ?_)); refine W_block ?_
                refine W_loop (fun m E H => ∃ j bs, cn L 9 ≤ j ∧ j ≤ 512 ∧ m = 512 - j ∧ bs.length = j - cn L 9 ∧ Sub E [(0, .pointer (some ⟨hb, q, none⟩)), (1, .slice p L.length cap), (11, .pointer (some ⟨b11, 0, none⟩)), (13, iV nl), (14, iV (cn L 9)), (15, uV j)] ∧ H = (lb, .cells (List.toArray (bs.map (sbV nl) ++ List.replicate (512 - j) (.slice none 0 0))) 183 (0, 0)) :: (b11, .cells (List.toArray ((nxtL L (mx L L.length + 1)).map iV)) 181 (0, 0)) :: (hb, .cells (List.toArray (hcl A (mn L L.length) (chJ L j) (.slice (some ⟨lb, 0, none⟩) (512 - cn L 9) (512 - cn L 9)) (nl - 1) Z)) ty (0, 0)) :: (ltH (bs.map fun b => (b, List.replicate nl 0)) ++ D)) (m := _) (⟨cn L 9, [], Nat.le_refl _, by omega, rfl, by simp, ⟨rfl, rfl, rfl, rfl, rfl, rfl, trivial⟩, by rw [chJ_zero]; rfl⟩) ?_; rintro m E H ⟨j, bs, hj1, hj2, rfl, hbs, hE, rfl⟩; refine W.env hE ?_
                have hchl : (chJ L j).length = 512 := by simp [chJ]
                refine W_seq fun K42 hK42 => ?_; refine W_seq fun K43 hK43 => ?_; refine W_region ?_; refine xm rfl rfl ?_; refine xp (n_lt rfl rfl rfl) rfl ?_; refine WO_nil (sq_n (hK43 _ _ ?_)); refine W_cond rfl (fun hc9 => ?_) (fun hc9 => ?_)
                · replace hc9 := of_decide_eq_true hc9; refine W_skip (sq_n (hK42 _ _ ?_)); refine W_seq fun K44 hK44 => ?_; refine W_block ?_; refine W_seq fun K45 hK45 => ?_; refine W_region ?_; refine xm rfl rfl ?_; refine xp (n_cv rfl underlying37 underlying115 rfl kH (by omega)) rfl ?_; refine wc (e_c rfl rfl rfl call89) rfl rfl rfl (reverse16_spec (by omega)) HSub.nil ?_; rintro _ _ ⟨rfl, rfl⟩; have hr16 := rv_lt 16 j; (try simp only [ap4]); refine xp (n_cv rfl underlying115 underlying3 rfl kI (by omega)) rfl ?_; refine xa rfl rfl ?_; refine WO_nil (sq_n (hK45 _ _ ?_)); refine W_seq fun K46 hK46 => ?_; refine W_region ?_; refine xm rfl rfl ?_; refine xp (n_shr rfl rfl rfl (by decide)) rfl ?_; refine xa rfl rfl ?_; refine WO_nil (sq_n (hK46 _ _ ?_)); refine W_seq fun K47 hK47 => ?_; rw [show rv 16 j / 2 ^ 7 = rv 9 j from rv_top 9 7 j]; have hr9 := rv_lt 9 j; refine W_region ?_
                  refine xm rfl rfl ?_; refine xm rfl rfl ?_; refine xp (n_cv rfl underlying3 underlying37 rfl kU (by omega)) rfl ?_; refine xp (n_sub rfl rfl rfl kU (by omega) (by omega)) rfl ?_; refine xa rfl rfl ?_; refine WO_nil (sq_n (hK47 _ _ ?_)); refine W_seq fun K48 hK48 => ?_; refine W_seq fun K49 hK49 => ?_; refine W_region ?_; refine xm rfl rfl ?_; refine xno rfl ?_; refine xno rfl ?_; refine xno rfl ?_; refine xno rfl ?_; refine xno rfl ?_; refine xno rfl ?_; refine xno rfl ?_; refine xp (v_pf rfl rfl rfl) rfl ?_; refine WO_nil (sq_n (hK49 _ _ ?_)); refine W_cond_f rfl ?_; refine W_skip (sq_n (hK48 _ _ ?_)); refine W_seq fun K50 hK50 => ?_; refine W_region ?_; refine xm rfl rfl ?_; refine xm rfl rfl ?_; refine xm rfl rfl ?_; refine xp (n_shl rfl rfl rfl kU (by decide) (by omega)) rfl ?_; refine xp (n_oradd2 (s := 4) rfl rfl rfl kU (by decide) (by omega) (by decide)) rfl ?_
                  refine xp (n_cv rfl underlying37 underlying29 rfl kW (by omega)) rfl ?_; refine xn rfl rfl ?_; refine xp (v_fa (q := 1) rfl underlying138 rfl rfl sizeOf135 rfl) rfl ?_; refine xp (v_ixa rfl underlying135 sizeOf29 rfl rfl (by omega)) rfl ?_; refine wst' rfl rfl rfl sizeOf29 rfl (hcl_set_ch hA hchl (by omega)) (by have := hcl_length (min := mn L L.length) (lv := .slice (some ⟨lb, 0, none⟩) (512 - cn L 9) (512 - cn L 9)) (mask := nl - 1) (Z := Z) hA hchl; omega) rfl rfl ?_; refine WO_nil (sq_n (hK50 _ _ ?_)); have hchl2 : ((chJ L j).set (rv 9 j) ((j - cn L 9) * 2 ^ 4 + 10)).length = 512 := by simp [hchl]
                  refine W_draw mixed ?_; refine ap 0 rfl (by kernel_rfl) (v_mv rfl rfl) rfl rfl rfl ?_; refine ap 1 rfl (by kernel_rfl) (v_nil rfl rfl) rfl rfl rfl ?_; refine ap 2 rfl (by kernel_rfl) (v_fa (q := 513) rfl underlying138 rfl rfl sizeOf136 rfl) rfl rfl rfl ?_; refine ap 4 rfl (by kernel_rfl) (v_mv rfl rfl) rfl rfl rfl ?_; refine ap 5 rfl (by kernel_rfl) (v_mv rfl rfl) rfl rfl rfl ?_; refine WA_two (k := 3) (j := 6) rfl rfl (by kernel_rfl) ?_ ?_
                  · refine xv (v_ld rfl rfl isAgg136 (hcl_links hA hchl2)) rfl ?_; refine WO_nil (sq_n ?_); refine WA_one (k := 6) rfl (by kernel_rfl) ?_; refine ws (v_mk (bytes := 4) rfl underlying183 sizeOf29 typeInfo29 rfl zeroValue29 rfl rfl (by omega) (by omega) rfl rfl) rfl rfl rfl ?_; rintro _ _ ⟨bn, rfl, rfl, _⟩; refine WO_nil (sq_n ?_); refine WA_k (fuel := 1) [7] rfl (by kernel_rfl) ?_; refine yp rfl (v_ixs rfl underlying136 sizeOf183 rfl rfl (by omega)) rfl ?_; refine WK_nil ?_; refine WA_one (k := 8) rfl (by kernel_rfl) ?_; refine wst' rfl rfl rfl sizeOf183 rfl rfl (by simp; omega) rfl rfl ?_; refine WO_nil (sq_n ?_); refine WA_nil (by kernel_rfl) (bl_n (sq_n (hK44 _ _ ?_))); rw [show 512 - j = (512 - (j + 1)) + 1 by omega, row_set hbs]
                    refine W.drop (.of (H1 := (lb, .cells (List.toArray ((bs ++ [bn]).map (sbV nl) ++ List.replicate (512 - (j + 1)) (.slice none 0 0))) 183 (0, 0)) :: (b11, .cells (List.toArray ((nxtL L (mx L L.length + 1)).map iV)) 181 (0, 0)) :: (hb, .cells (List.toArray (hcl A (mn L L.length) ((chJ L j).set (rv 9 j) ((j - cn L 9) * 2 ^ 4 + 10)) (.slice (some ⟨lb, 0, none⟩) (512 - cn L 9) (512 - cn L 9)) (nl - 1) Z)) ty (0, 0)) :: ((ltH (bs.map fun b => (b, List.replicate nl 0)) ++ [(bn, .cells (List.toArray ((List.replicate nl 0).map wV)) 29 (0, 0))]) ++ D)) (H2 := []) ?_) ?_
                    · rw [List.append_nil, List.append_assoc, List.map_replicate]; exact (List.perm_middle (l₁ := _ :: _ :: _ :: ltH (bs.map fun b => (b, List.replicate nl 0)))).symm
                    refine W_region ?_; refine xm rfl rfl ?_; refine xp (n_add rfl rfl rfl kU (by omega)) rfl ?_; refine xa rfl rfl ?_; refine WO_nil (sq_n (?_)); exact ⟨_, by omega, j + 1, bs ++ [bn], by omega, by omega, rfl, by simp; omega, ⟨rfl, rfl, rfl, rfl, rfl, rfl, trivial⟩, by rw [show (j - cn L 9) * 2 ^ 4 + 10 = (j - cn L 9) * 16 + 10 from rfl, chJ_step hj1 (by omega)]; simp only [ltH, List.map_append, List.map_cons, List.map_nil]⟩
                  · refine ws (v_mk (bytes := 4) rfl underlying183 sizeOf29 typeInfo29 rfl zeroValue29 rfl rfl (by omega) (by omega) rfl rfl) rfl rfl rfl ?_; rintro _ _ ⟨bn, rfl, rfl, _⟩; refine WO_nil (sq_n ?_); refine WA_k (fuel := 1) [3,7] rfl (by kernel_rfl) ?_; refine yv rfl (v_ld rfl rfl isAgg136 (hcl_links hA hchl2)) rfl ?_; refine yp rfl (v_ixs rfl underlying136 sizeOf183 rfl rfl (by omega)) rfl ?_; refine WK_nil ?_; refine WA_one (k := 8) rfl (by kernel_rfl) ?_; refine wst' rfl rfl rfl sizeOf183 rfl rfl (by simp; omega) rfl rfl ?_; refine WO_nil (sq_n ?_); refine WA_nil (by kernel_rfl) (bl_n (sq_n (hK44 _ _ ?_))); rw [show 512 - j = (512 - (j + 1)) + 1 by omega, row_set hbs]
                    refine W.drop (.of (H1 := (lb, .cells (List.toArray ((bs ++ [bn]).map (sbV nl) ++ List.replicate (512 - (j + 1)) (.slice none 0 0))) 183 (0, 0)) :: (b11, .cells (List.toArray ((nxtL L (mx L L.length + 1)).map iV)) 181 (0, 0)) :: (hb, .cells (List.toArray (hcl A (mn L L.length) ((chJ L j).set (rv 9 j) ((j - cn L 9) * 2 ^ 4 + 10)) (.slice (some ⟨lb, 0, none⟩) (512 - cn L 9) (512 - cn L 9)) (nl - 1) Z)) ty (0, 0)) :: ((ltH (bs.map fun b => (b, List.replicate nl 0)) ++ [(bn, .cells (List.toArray ((List.replicate nl 0).map wV)) 29 (0, 0))]) ++ D)) (H2 := []) ?_) ?_
                    · rw [List.append_nil, List.append_assoc, List.map_replicate]; exact (List.perm_middle (l₁ := _ :: _ :: _ :: ltH (bs.map fun b => (b, List.replicate nl 0)))).symm
                    refine W_region ?_; refine xm rfl rfl ?_; refine xp (n_add rfl rfl rfl kU (by omega)) rfl ?_; refine xa rfl rfl ?_; refine WO_nil (sq_n (?_)); exact ⟨_, by omega, j + 1, bs ++ [bn], by omega, by omega, rfl, by simp; omega, ⟨rfl, rfl, rfl, rfl, rfl, rfl, trivial⟩, by rw [show (j - cn L 9) * 2 ^ 4 + 10 = (j - cn L 9) * 16 + 10 from rfl, chJ_step hj1 (by omega)]; simp only [ltH, List.map_append, List.map_cons, List.map_nil]⟩
                · replace hc9 := of_decide_eq_false hc9; obtain rfl : j = 512 := by omega
                  refine W_exit (sq_x (sq_x (bl_x (sq_n (?_))))); first
                  | (have hq : ¬ 9 < mx L L.length := hc8; exact ⟨List.replicate 512 0, [], [], [], lv, mask, CI.short hc8, hmk, rfl, fun h => absurd h hc8, fun _ => rfl, ⟨rfl, rfl, rfl, trivial⟩, rfl⟩)
                  | (refine ⟨chJ L 512, [(lb, _)], bs.map (fun b => (b, List.replicate nl 0)), bs, .slice (some ⟨lb, 0, none⟩) (512 - cn L 9) (512 - cn L 9), nl - 1, CI.long hc8, by omega, by simp [Function.comp_def], fun _ => ⟨rfl, ?_, lb, ?_, by rw [hbs]⟩, fun h => absurd hc8 h, ⟨rfl, rfl, rfl, trivial⟩, rfl⟩
                     · rw [List.map_map, show (Prod.snd ∘ fun b : Nat => (b, List.replicate nl 0)) = (fun _ => List.replicate nl 0) from rfl, List.map_const', hbs]; exact TI.zero
                     · simp)
              · replace hc8 := of_decide_eq_false hc8; refine W_skip (sq_n (?_)); first
                | (have hq : ¬ 9 < mx L L.length := hc8; exact ⟨List.replicate 512 0, [], [], [], lv, mask, CI.short hc8, hmk, rfl, fun h => absurd h hc8, fun _ => rfl, ⟨rfl, rfl, rfl, trivial⟩, rfl⟩)
                | (refine ⟨chJ L 512, [(lb, _)], bs.map (fun b => (b, List.replicate nl 0)), bs, .slice (some ⟨lb, 0, none⟩) (512 - cn L 9) (512 - cn L 9), nl - 1, CI.long hc8, by omega, by simp [Function.comp_def], fun _ => ⟨rfl, ?_, lb, ?_, by rw [hbs]⟩, fun h => absurd hc8 h, ⟨rfl, rfl, rfl, trivial⟩, rfl⟩
                   · rw [List.map_map, show (Prod.snd ∘ fun b : Nat => (b, List.replicate nl 0)) = (fun _ => List.replicate nl 0) from rfl, List.map_const', hbs]; exact TI.zero
                   · simp)
            · clear hmk; rintro E H ⟨ch, lks, lt, bs, lv, mask, hCI, hmk, hbs, hlong, hshort, hE, rfl⟩; refine W.env hE ?_; rw [nxtK_zero]; refine W_seq fun K51 hK51 => ?_; refine W_seq fun K52 hK52 => ?_; refine W_region ?_; refine xm rfl rfl ?_; refine xp (v_len rfl underlying23 rfl) rfl ?_; refine xm rfl rfl ?_; refine WO_nil (sq_n (hK52 _ _ ?_)); refine W_block ?_
              refine W_loop (fun m E H => ∃ k ch lt, k ≤ L.length ∧ m = L.length - k ∧ CI L k ch ∧ lt.map Prod.fst = bs ∧ (9 < mx L L.length → TI L k (2 ^ (mx L L.length - 9)) (lt.map Prod.snd)) ∧ (¬ 9 < mx L L.length → lt = []) ∧ Sub E [(0, .pointer (some ⟨hb, q, none⟩)), (1, .slice p L.length cap), (11, .pointer (some ⟨b11, 0, none⟩)), (168, .slice p L.length cap), (169, iV L.length), (170, iV k)] ∧ H = lks ++ (b11, .cells (List.toArray ((nxtK L (k)).map iV)) 181 (0, 0)) :: (hb, .cells (List.toArray (hcl A (mn L L.length) (ch) lv mask Z)) ty (0, 0)) :: (ltH (lt) ++ D)) (m := _) (⟨0, ch, lt, by omega, rfl, hCI, hbs, fun h => (hlong h).2.1, hshort, ⟨rfl, rfl, rfl, rfl, rfl, rfl, trivial⟩, rfl⟩) ?_; rintro m E H ⟨k, ch, lt, hk, rfl, hCI, hbs, hTI, hshort, hE, rfl⟩; refine W.env hE ?_; have hchl := hCI.len; refine W_seq fun K53 hK53 => ?_; refine W_region ?_
              refine xp (n_lt rfl rfl rfl) rfl ?_; refine WO_nil (sq_n (hK53 _ _ ?_)); refine W_seq fun K54 hK54 => ?_; refine W_cond rfl (fun hc11 => ?_) (fun hc11 => ?_)
              · replace hc11 := of_decide_eq_true hc11; refine W_skip (sq_n (hK54 _ _ ?_)); refine W_seq fun K55 hK55 => ?_; refine W_block ?_; refine W_seq fun K56 hK56 => ?_; have hne : L ≠ [] := by intro e; subst e; exact absurd hc11 (by simp)
                obtain ⟨b2, off2, c2, ty2, fz2, r2, rfl, hat, hcc⟩ := hd hne; have hg : L.getD k 0 = L[k] := by simp [hc11]
                have hx15 := h15 _ (List.getElem_mem hc11); refine W_region ?_; refine xm rfl rfl ?_; refine xp (v_ixs rfl underlying23 sizeOf3 rfl rfl (by omega)) rfl ?_; refine xv (v_ld rfl rfl isAgg3 (hcc _ hc11)) rfl ?_; refine xa rfl rfl ?_; refine xa rfl rfl ?_; refine WO_nil (sq_n (hK56 _ _ ?_)); refine W_seq fun K57 hK57 => ?_; refine W_seq fun K58 hK58 => ?_; generalize hn : L[k] = n at *; refine W_region ?_; refine xm rfl rfl ?_; refine xp (n_eq rfl rfl rfl) rfl ?_; refine WO_nil (sq_n (hK58 _ _ ?_)); refine W_cond rfl (fun hc12 => ?_) (fun hc12 => ?_)
                · replace hc12 := of_decide_eq_true hc12; refine W_exit (sq_x (bl_x (sq_n (hK55 _ _ ?_)))); refine W_region ?_; refine xp (n_add rfl rfl rfl kI (by omega)) rfl ?_; refine xm rfl rfl ?_; refine WO_nil (sq_n (?_)); first
                  | (have hq : n = 0 := hc12; exact ⟨_, by omega, k + 1, ch, lt, by omega, rfl, hCI.same (.inl (by rw [hg]; exact hc12)), hbs, fun h => (hTI h).same (by rw [hg]; omega), hshort, ⟨rfl, rfl, rfl, rfl, rfl, rfl, trivial⟩, by rw [nxtK_same (by rw [hg]; exact hc12) hmp]⟩)
                  | (have hq := hc14; exact ⟨_, by omega, k + 1, _, lt, by omega, rfl, hCI.step h15 hK hc11 h1 (by omega) (by rw [stp_length]; exact hchl) (fun i hi => by rw [stp_get (by omega) (by omega), hg]), hbs, fun h => (hTI h).same (by omega), hshort, ⟨rfl, rfl, rfl, rfl, rfl, rfl, trivial⟩, rfl⟩)
                  | (have hq := hbs2; exact ⟨_, by omega, k + 1, ch, _, by omega, rfl, hCI.same (.inr (by omega)), hbs2, fun h => hTI2, fun h => absurd hM9 h, ⟨rfl, rfl, rfl, rfl, rfl, rfl, trivial⟩, rfl⟩)
                · replace hc12 := of_decide_eq_false hc12; refine W_skip (sq_n (hK57 _ _ ?_)); refine W_seq fun K59 hK59 => ?_; have h1 : 1 ≤ L.getD k 0 := by omega
                  have hk16 : (nxtK L k).length = 16 := by simp [nxtK]
                  have hkg := nxtK_get h15 h1; have hks := nxtK_step h15 h1; have hc2n := codeOf_lt2 h15 hK hc11 h1; rw [hg] at hkg hks hc2n; have hcell : ((nxtK L k).map iV)[n]? = some (iV (codeOf L k)) := by rw [List.getElem?_map, List.getElem?_eq_getElem (by omega), ← hkg, getD_in (by omega)]; rfl
                  have hp2 : 2 ^ n ≤ 2 ^ 15 := Nat.pow_le_pow_right (by decide) hx15; have hrv := rv_lt n (codeOf L k); have hr16 := rv_lt 16 (codeOf L k); refine W_region ?_; refine xm rfl rfl ?_; refine xp (v_ixa rfl underlying181 sizeOf3 rfl rfl (by omega)) rfl ?_; refine xv (v_ld rfl rfl isAgg3 hcell) rfl ?_; refine xa rfl rfl ?_; refine WO_nil (sq_n (hK59 _ _ ?_)); refine W_seq fun K60 hK60 => ?_; refine W_region ?_; refine xm rfl rfl ?_; refine xp (v_ixa rfl underlying181 sizeOf3 rfl rfl (by omega)) rfl ?_; refine xv (v_ld rfl rfl isAgg3 hcell) rfl ?_; refine xp (n_add rfl rfl rfl kI (by omega)) rfl ?_; refine xp (v_ixa rfl underlying181 sizeOf3 rfl rfl (by omega)) rfl ?_; refine wst' rfl rfl rfl sizeOf3 rfl (List.map_set (f := iV)).symm (by simp only [List.length_map]; omega) rfl rfl ?_; refine WO_nil (sq_n (hK60 _ _ ?_)); refine W_seq fun K61 hK61 => ?_; rw [hks]
                  refine W_region ?_; refine xm rfl rfl ?_; refine xp (n_shl rfl rfl rfl kI (by decide) (by omega)) rfl ?_; refine xm rfl rfl ?_; refine xp (n_oradd2 (s := 4) rfl rfl rfl kI (by omega) (by omega) (by omega)) rfl ?_; refine xp (n_cv rfl underlying3 underlying29 rfl kW (by omega)) rfl ?_; refine xa rfl rfl ?_; refine WO_nil (sq_n (hK61 _ _ ?_)); refine W_seq fun K62 hK62 => ?_; refine W_region ?_; refine xm rfl rfl ?_; refine xp (n_cv rfl underlying3 underlying115 rfl kH (by omega)) rfl ?_; refine wc (e_c rfl rfl rfl call89) rfl rfl rfl (reverse16_spec (by omega)) HSub.nil ?_; rintro _ _ ⟨rfl, rfl⟩; (try simp only [ap4]); refine xp (n_cv rfl underlying115 underlying3 rfl kI (by omega)) rfl ?_; refine xa rfl rfl ?_; refine WO_nil (sq_n (hK62 _ _ ?_)); refine W_seq fun K63 hK63 => ?_; refine W_region ?_; refine xm rfl rfl ?_; refine xm rfl rfl ?_
                  refine xp (n_sub rfl rfl rfl kI (by omega) (by omega)) rfl ?_; refine xp (n_cv rfl underlying3 underlying37 rfl kU (by omega)) rfl ?_; refine xp (n_shr rfl rfl rfl (by show _ ≤ 64; omega)) rfl ?_; refine xa rfl rfl ?_; refine WO_nil (sq_n (hK63 _ _ ?_)); refine W_seq fun K64 hK64 => ?_; have hrt : rv 16 (codeOf L k) / 2 ^ (16 - n) = rv n (codeOf L k) := by
                    have := rv_top n (16 - n) (codeOf L k); rwa [Nat.add_sub_cancel' (by omega)] at this
                  rw [hrt]; refine W_region ?_; refine xm rfl rfl ?_; refine xp (n_le rfl rfl rfl) rfl ?_; refine WO_nil (sq_n (hK64 _ _ ?_)); refine W_cond rfl (fun hc13 => ?_) (fun hc13 => ?_)
                  · replace hc13 := of_decide_eq_true hc13; refine W_seq fun K65 hK65 => ?_; have hp9 : 2 ^ n ≤ 2 ^ 9 := Nat.pow_le_pow_right (by decide) hc13; refine W_region ?_; refine xm rfl rfl ?_; refine xa rfl rfl ?_; refine WO_nil (sq_n (hK65 _ _ ?_)); refine W_block ?_
                    refine W_loop (fun m E H => ∃ off, off % 2 ^ n = rv n (codeOf L k) ∧ off < 1024 ∧ m = 2048 - off ∧ Sub E [(0, .pointer (some ⟨hb, q, none⟩)), (1, .slice (some ⟨b2, off2, none⟩) L.length cap), (11, .pointer (some ⟨b11, 0, none⟩)), (168, .slice (some ⟨b2, off2, none⟩) L.length cap), (169, iV L.length), (170, iV k), (19, iV n), (21, wV (k * 2 ^ 4 + n)), (23, iV off)] ∧ H = lks ++ (b11, .cells (List.toArray ((nxtK L (k + 1)).map iV)) 181 (0, 0)) :: (hb, .cells (List.toArray (hcl A (mn L L.length) (stp (2 ^ n) (rv n (codeOf L k)) (k * 2 ^ 4 + n) ch off) lv mask Z)) ty (0, 0)) :: (ltH (lt) ++ D)) (m := _) (⟨rv n (codeOf L k), Nat.mod_eq_of_lt hrv, by omega, rfl, ⟨rfl, rfl, rfl, rfl, rfl, rfl, rfl, rfl, rfl, trivial⟩, by rw [stp_zero _ (Nat.le_refl _)]⟩) ?_; rintro m E H ⟨off, hof1, hof2, rfl, hE, rfl⟩; refine W.env hE ?_
                    have hsl := stp_length (2 ^ n) (rv n (codeOf L k)) (k * 2 ^ 4 + n) ch off; rw [hchl] at hsl; refine W_seq fun K66 hK66 => ?_; refine W_seq fun K67 hK67 => ?_; refine W_region ?_; refine xm rfl rfl ?_; refine xp (n_lt rfl rfl rfl) rfl ?_; refine WO_nil (sq_n (hK67 _ _ ?_)); refine W_cond rfl (fun hc14 => ?_) (fun hc14 => ?_)
                    · replace hc14 := of_decide_eq_true hc14; refine W_skip (sq_n (hK66 _ _ ?_)); refine W_seq fun K68 hK68 => ?_; refine W_block ?_; refine W_seq fun K69 hK69 => ?_; refine W_seq fun K70 hK70 => ?_; refine W_region ?_; refine xm rfl rfl ?_; refine xno rfl ?_; refine xno rfl ?_; refine xno rfl ?_; refine xno rfl ?_; refine xno rfl ?_; refine xno rfl ?_; refine xno rfl ?_; refine xp (v_pf rfl rfl rfl) rfl ?_; refine WO_nil (sq_n (hK70 _ _ ?_)); refine W_cond_f rfl ?_; refine W_skip (sq_n (hK69 _ _ ?_)); refine W_region ?_; refine xm rfl rfl ?_; refine xm rfl rfl ?_; refine xm rfl rfl ?_; refine xn rfl rfl ?_; refine xp (v_fa (q := 1) rfl underlying138 rfl rfl sizeOf135 rfl) rfl ?_; refine xp (v_ixa rfl underlying135 sizeOf29 rfl rfl (by omega)) rfl ?_
                      refine wst' rfl rfl rfl sizeOf29 rfl (hcl_set_ch hA hsl hc14) (by have := hcl_length (min := mn L L.length) (lv := lv) (mask := mask) (Z := Z) hA hsl; omega) rfl rfl ?_; refine WO_nil (bl_n (sq_n (hK68 _ _ ?_))); refine W_region ?_; refine xm rfl rfl ?_; refine xm rfl rfl ?_; refine xp (n_cv rfl underlying3 underlying37 rfl kU (by omega)) rfl ?_; refine xp (n_shl rfl rfl rfl kI (by show _ ≤ 64; omega) (by rw [Nat.one_mul]; omega)) rfl ?_; refine xp (n_add rfl rfl rfl kI (by rw [Nat.one_mul]; omega)) rfl ?_; refine xa rfl rfl ?_; refine WO_nil (sq_n (?_)); rw [Nat.one_mul, stp_step (Nat.two_pow_pos _) hof1]; exact ⟨2048 - (off + 2 ^ n), by have := Nat.two_pow_pos n; omega, off + 2 ^ n, by rw [Nat.add_mod_right]; exact hof1, by omega, rfl, ⟨rfl, rfl, rfl, rfl, rfl, rfl, rfl, rfl, rfl, trivial⟩, rfl⟩
                    · replace hc14 := of_decide_eq_false hc14; refine W_exit (sq_x (sq_x (bl_x (bl_n (sq_n (hK55 _ _ ?_)))))); refine W_region ?_; refine xp (n_add rfl rfl rfl kI (by omega)) rfl ?_; refine xm rfl rfl ?_; refine WO_nil (sq_n (?_)); first
                      | (have hq : n = 0 := hc12; exact ⟨_, by omega, k + 1, ch, lt, by omega, rfl, hCI.same (.inl (by rw [hg]; exact hc12)), hbs, fun h => (hTI h).same (by rw [hg]; omega), hshort, ⟨rfl, rfl, rfl, rfl, rfl, rfl, trivial⟩, by rw [nxtK_same (by rw [hg]; exact hc12) hmp]⟩)
                      | (have hq := hc14; exact ⟨_, by omega, k + 1, _, lt, by omega, rfl, hCI.step h15 hK hc11 h1 (by omega) (by rw [stp_length]; exact hchl) (fun i hi => by rw [stp_get (by omega) (by omega), hg]), hbs, fun h => (hTI h).same (by omega), hshort, ⟨rfl, rfl, rfl, rfl, rfl, rfl, trivial⟩, rfl⟩)
                      | (have hq := hbs2; exact ⟨_, by omega, k + 1, ch, _, by omega, rfl, hCI.same (.inr (by omega)), hbs2, fun h => hTI2, fun h => absurd hM9 h, ⟨rfl, rfl, rfl, rfl, rfl, rfl, trivial⟩, rfl⟩)
                  · replace hc13 := of_decide_eq_false hc13; refine W_seq fun K71 hK71 => ?_; have hM9 : 9 < mx L L.length := Nat.lt_of_lt_of_le (by omega) (mx_all L k); obtain ⟨_, _, lb, rfl, rfl⟩ := hlong hM9; refine W.drop (H' := (lb, _) :: (b11, _) :: (hb, _) :: (ltH lt ++ D)) .all ?_; have hTIk := hTI hM9; have hself : Hit L k (rv n (codeOf L k)) := ⟨hc11, h1, by rw [hg, rv_rv _ _ hc2n]⟩; obtain ⟨la1, la2, la3⟩ := hCI.long_at h15 hK hself (by omega); rw [hg] at la3; obtain ⟨v, hv⟩ : ∃ v, v = rv 9 (rv n (codeOf L k)) - cn L 9 := ⟨_, rfl⟩; rw [← hv] at la1; have hvc : cn L 9 + v = codeOf L k / 2 ^ (n - 9) := by omega
                    have hr9 := rv_lt 9 (rv n (codeOf L k)); have hll : lt.length = 512 - cn L 9 := by have := hTIk.len; simpa using this
                    have hbl : bs.length = lt.length := by rw [← hbs]; simp
                    have hvl : v < lt.length := by omega
                    have hnl64 : 2 ^ (mx L L.length - 9) ≤ 2 ^ 6 := Nat.pow_le_pow_right (by decide) (by omega); have hnk64 : 2 ^ (n - 9) ≤ 2 ^ 6 := Nat.pow_le_pow_right (by decide) (by omega); obtain ⟨bv, t, hlv⟩ : ∃ bv t, lt[v]? = some (bv, t) := ⟨_, _, List.getElem?_eq_getElem hvl⟩; have hbv : (bs.map (sbV (2 ^ (mx L L.length - 9))))[v]? = some (sbV (2 ^ (mx L L.length - 9)) bv) := by rw [← hbs, List.getElem?_map, List.getElem?_map, hlv]; rfl
                    refine W_region ?_; refine xm rfl rfl ?_; refine xp (n_mask 9 rfl rfl rfl kI (by omega) (by decide) (by decide)) rfl ?_; refine xa rfl rfl ?_; refine WO_nil (sq_n (hK71 _ _ ?_)); refine W_seq fun K72 hK72 => ?_; refine W_seq fun K73 hK73 => ?_; refine W_region ?_; refine xm rfl rfl ?_; refine xno rfl ?_; refine xno rfl ?_; refine xno rfl ?_; refine xno rfl ?_; refine xno rfl ?_; refine xno rfl ?_; refine xno rfl ?_; refine xno rfl ?_; refine xp (v_pf rfl rfl rfl) rfl ?_; refine WO_nil (sq_n (hK73 _ _ ?_)); refine W_cond_f rfl ?_; refine W_skip (sq_n (hK72 _ _ ?_)); refine W_seq fun K74 hK74 => ?_; refine W_region ?_; refine xm rfl rfl ?_; refine xm rfl rfl ?_; refine xn rfl rfl ?_; refine xp (v_fa (q := 1) rfl underlying138 rfl rfl sizeOf135 rfl) rfl ?_; refine xp (v_ixa rfl underlying135 sizeOf29 rfl rfl (Nat.mod_lt _ (by decide))) rfl ?_
                    refine xv (v_ld rfl rfl isAgg29 (v := wV (v * 16 + 10)) (by rw [hcl_ch hA hchl (Nat.mod_lt _ (by decide)), la1])) rfl ?_; refine xp (n_shr rfl rfl rfl (by decide)) rfl ?_; refine xa rfl rfl ?_; refine WO_nil (sq_n (hK74 _ _ ?_)); refine W_seq fun K75 hK75 => ?_; rw [show (v * 16 + 10) / 2 ^ 4 = v by omega]; refine W_region ?_; refine xm rfl rfl ?_; refine xn rfl rfl ?_; refine xp (v_fa (q := 513) rfl underlying138 rfl rfl sizeOf136 rfl) rfl ?_; refine xv (v_ld rfl rfl isAgg136 (hcl_links hA hchl)) rfl ?_; refine xm rfl rfl ?_; refine xp (v_ixs rfl underlying136 sizeOf183 rfl rfl (by omega)) rfl ?_; refine xv (v_ld rfl rfl isAgg183 hbv) rfl ?_; refine xa rfl rfl ?_; refine WO_nil (sq_n (hK75 _ _ ?_)); refine W_seq fun K76 hK76 => ?_; refine W_region ?_; refine xm rfl rfl ?_; refine xp (n_shr rfl rfl rfl (by decide)) rfl ?_; refine xa rfl rfl ?_
                    refine WO_nil (sq_n (hK76 _ _ ?_)); refine W_seq fun K77 hK77 => ?_; have hrl : rv n (codeOf L k) / 2 ^ 9 = rv (n - 9) (codeOf L k) := by
                      have e := rv_long (n := n) (c := codeOf L k) (by omega); have := rv_lt 9 (codeOf L k / 2 ^ (n - 9)); omega
                    rw [hrl]; have hrvl := rv_lt (n - 9) (codeOf L k); have htg : (lt.map Prod.snd).getD v [] = t := by rw [List.getD_eq_getElem?_getD, List.getElem?_map, hlv]; rfl
                    have htl : t.length = 2 ^ (mx L L.length - 9) := by
                      have := hTIk.each v (by rw [List.length_map]; exact hvl); rwa [htg] at this
                    have hlt0 : lt.set v (bv, t) = lt := set_same hlv; refine W_region ?_; refine xm rfl rfl ?_; refine xa rfl rfl ?_; refine WO_nil (sq_n (hK77 _ _ ?_)); refine W_block ?_
                    refine W_loop (fun m E H => ∃ off, off % 2 ^ (n - 9) = rv (n - 9) (codeOf L k) ∧ off < 1024 ∧ m = 2048 - off ∧ Sub E [(0, .pointer (some ⟨hb, q, none⟩)), (1, .slice (some ⟨b2, off2, none⟩) L.length cap), (11, .pointer (some ⟨b11, 0, none⟩)), (168, .slice (some ⟨b2, off2, none⟩) L.length cap), (169, iV L.length), (170, iV k), (19, iV n), (21, wV (k * 2 ^ 4 + n)), (26, sbV (2 ^ (mx L L.length - 9)) bv), (27, iV off)] ∧ H = (lb, .cells (List.toArray (bs.map (sbV (2 ^ (mx L L.length - 9))))) 183 (0, 0)) :: (b11, .cells (List.toArray ((nxtK L (k + 1)).map iV)) 181 (0, 0)) :: (hb, .cells (List.toArray (hcl A (mn L L.length) ch (.slice (some ⟨lb, 0, none⟩) bs.length bs.length) mask Z)) ty (0, 0)) :: (ltH (lt.set v (bv, stp (2 ^ (n - 9)) (rv (n - 9) (codeOf L k)) (k * 2 ^ 4 + n) t off)) ++ D)) (m := _) (⟨rv (n - 9) (codeOf L k), Nat.mod_eq_of_lt hrvl, by omega, rfl, ⟨rfl, rfl, rfl, rfl, rfl, rfl, rfl, rfl, rfl, rfl, trivial⟩, by rw [stp_zero _ (Nat.le_refl _), hlt0]⟩) ?_
                    rintro m E H ⟨off, hof1, hof2, rfl, hE, rfl⟩; refine W.env hE ?_; have hsl := stp_length (2 ^ (n - 9)) (rv (n - 9) (codeOf L k)) (k * 2 ^ 4 + n) t off; rw [htl] at hsl; have hat2 := (AtH.idx (H := ltH (lt.set v (bv, stp (2 ^ (n - 9)) (rv (n - 9) (codeOf L k)) (k * 2 ^ 4 + n) t off))) (v := v) (b := bv) (o := .cells (List.toArray ((stp (2 ^ (n - 9)) (rv (n - 9) (codeOf L k)) (k * 2 ^ 4 + n) t off).map wV)) 29 (0, 0)) (ltH_at hvl)).appl (D := D); refine W_seq fun K78 hK78 => ?_; refine W_seq fun K79 hK79 => ?_; refine W_region ?_; refine xm rfl rfl ?_; refine xm rfl rfl ?_; refine xp (v_len rfl underlying183 rfl) rfl ?_; refine xp (n_lt rfl rfl rfl) rfl ?_; refine WO_nil (sq_n (hK79 _ _ ?_)); refine W_cond rfl (fun hc17 => ?_) (fun hc17 => ?_)
                    · replace hc17 := of_decide_eq_true hc17; refine W_skip (sq_n (hK78 _ _ ?_)); refine W_seq fun K80 hK80 => ?_; refine W_block ?_; refine W_seq fun K81 hK81 => ?_; refine W_seq fun K82 hK82 => ?_; refine W_region ?_; refine xm rfl rfl ?_; refine xno rfl ?_; refine xno rfl ?_; refine xno rfl ?_; refine xno rfl ?_; refine xno rfl ?_; refine xp (v_pf rfl rfl rfl) rfl ?_; refine WO_nil (sq_n (hK82 _ _ ?_)); refine W_cond_f rfl ?_; refine W_skip (sq_n (hK81 _ _ ?_)); refine W_region ?_; refine xm rfl rfl ?_; refine xm rfl rfl ?_; refine xm rfl rfl ?_; refine xp (v_ixs rfl underlying183 sizeOf29 rfl rfl (by omega)) rfl ?_; refine wst' rfl rfl rfl sizeOf29 rfl (List.map_set (f := wV)).symm (by simp only [List.length_map]; omega) rfl rfl ?_; refine WO_nil (bl_n (sq_n (hK80 _ _ ?_))); refine W_region ?_; refine xm rfl rfl ?_; refine xm rfl rfl ?_
                      refine xp (n_sub rfl rfl rfl kI (by omega) (by omega)) rfl ?_; refine xp (n_cv rfl underlying3 underlying37 rfl kU (by omega)) rfl ?_; refine xp (n_shl rfl rfl rfl kI (by show _ ≤ 64; omega) (by rw [Nat.one_mul]; omega)) rfl ?_; refine xp (n_add rfl rfl rfl kI (by rw [Nat.one_mul]; omega)) rfl ?_; refine xa rfl rfl ?_; refine WO_nil (sq_n (?_)); rw [ltH_set, List.set_set, Nat.one_mul, stp_step (Nat.two_pow_pos _) hof1]; exact ⟨2048 - (off + 2 ^ (n - 9)), by have := Nat.two_pow_pos (n - 9); omega, off + 2 ^ (n - 9), by rw [Nat.add_mod_right]; exact hof1, by omega, rfl, ⟨rfl, rfl, rfl, rfl, rfl, rfl, rfl, rfl, rfl, rfl, trivial⟩, rfl⟩
                    · replace hc17 := of_decide_eq_false hc17; have hbs2 : (lt.set v (bv, stp (2 ^ (n - 9)) (rv (n - 9) (codeOf L k)) (k * 2 ^ 4 + n) t off)).map Prod.fst = bs := by
                        rw [List.map_set, set_same (by rw [List.getElem?_map, hlv]; rfl), hbs]
                      have hTI2 : TI L (k + 1) (2 ^ (mx L L.length - 9)) ((lt.set v (bv, stp (2 ^ (n - 9)) (rv (n - 9) (codeOf L k)) (k * 2 ^ 4 + n) t off)).map Prod.snd) := by
                        rw [List.map_set]; refine hTIk.step h15 hK hc11 (by omega) (by rw [hg]; exact hvc) hsl fun o ho => ?_; rw [stp_get (by omega) (by omega), hg, htg]
                      refine W_exit (sq_x (sq_x (bl_x (bl_n (sq_n (hK55 _ _ ?_)))))); refine W_region ?_; refine xp (n_add rfl rfl rfl kI (by omega)) rfl ?_; refine xm rfl rfl ?_; refine WO_nil (sq_n (?_)); first
                      | (have hq : n = 0 := hc12; exact ⟨_, by omega, k + 1, ch, lt, by omega, rfl, hCI.same (.inl (by rw [hg]; exact hc12)), hbs, fun h => (hTI h).same (by rw [hg]; omega), hshort, ⟨rfl, rfl, rfl, rfl, rfl, rfl, trivial⟩, by rw [nxtK_same (by rw [hg]; exact hc12) hmp]⟩)
                      | (have hq := hc14; exact ⟨_, by omega, k + 1, _, lt, by omega, rfl, hCI.step h15 hK hc11 h1 (by omega) (by rw [stp_length]; exact hchl) (fun i hi => by rw [stp_get (by omega) (by omega), hg]), hbs, fun h => (hTI h).same (by omega), hshort, ⟨rfl, rfl, rfl, rfl, rfl, rfl, trivial⟩, rfl⟩)
                      | (have hq := hbs2; exact ⟨_, by omega, k + 1, ch, _, by omega, rfl, hCI.same (.inr (by omega)), hbs2, fun h => hTI2, fun h => absurd hM9 h, ⟨rfl, rfl, rfl, rfl, rfl, rfl, trivial⟩, rfl⟩)
              · replace hc11 := of_decide_eq_false hc11; obtain rfl : k = L.length := by omega
                refine W_exit (sq_x (sq_x (bl_x (sq_n (hK51 _ _ ?_))))); refine W.keep [0] rfl ?_; refine W_seq fun K83 hK83 => ?_; refine W_cond_f rfl ?_; refine W_skip (sq_n (hK83 _ _ ?_)); refine W_seq fun K84 hK84 => ?_; refine W.drop (.of perm1) ?_; rw [← List.append_assoc]; refine W_region ?_; refine xa rfl rfl ?_; refine WO_nil (sq_n (hK84 _ _ ?_)); refine W_ret (ret_of (v := _) rfl ?_); refine .inr ⟨hok, rfl, ch, lv, mask, lt.map Prod.snd, lks ++ ltH lt, rfl, hchl, fun h => by omega, ?_, ?_⟩
                · by_cases hM9 : 9 < mx L L.length
                  · obtain ⟨_, _, lb, rfl, rfl⟩ := hlong hM9; exact lk_of hbs (hTI hM9)
                  · rw [hshort hM9]; exact fun h => absurd rfl h
                · exact huf_of h15 hL hok hCI hmk fun h => ⟨(hlong h).1, hTI h⟩
end
end Go.Proofs.YtpbahgddoamhgaaGreatDoor
namespace Go.Proofs.YtpbahgddoamhgaaGreatDoor
open Go.Proofs.Tryz
open Go Sx Pu
set_option maxRecDepth 10000

theorem m_Read42 (k : Nat) (w : World) : (method (Tryz.prog.types.size + Made.depth) 42 (.pointer (some ⟨k, 0, none⟩)) "Read").run Tryz.prog w = .ok (105, .pointer (some ⟨k, 0, none⟩)) w := by kernel_rfl
section
variable {n : Nat} {E : El} {H : Hl} {o : Oper} {x : Operand} {t' : TypeId}
theorem v_eqnn (ho : o.op = .binOp .eql 47 x (.const .nilIface) t') (hx : ev E x = some .nilIface) : OP Tryz.prog n E o (.bool true) := fun a w ha => by
  have h : ∀ d : Nat, (Op.equalIn (d + 1) 47 .nilIface .nilIface).run Tryz.prog w = .ok true w := fun d => by simp [Op.equalIn, run_underlying i47]
  have hc : a.eval (.const .nilIface) = .nilIface := rfl; simp [execOp, ho, ev_sound ha hx, hc, eqGuard, binOp, Op.equal, Op.maxDepth, h 9999]
theorem v_eqin {v : Value} (ho : o.op = .binOp .eql 47 x (.const .nilIface) t') (hx : ev E x = some v) (hv : isIf v = true) : OP Tryz.prog n E o (.bool false) := fun a w ha => by
  cases v <;> simp [isIf] at hv
  rename_i t v; have h : ∀ d : Nat, (Op.equalIn (d + 1) 47 (.iface t v) .nilIface).run Tryz.prog w = .ok false w := fun d => by simp [Op.equalIn, run_underlying i47]
  have hc : a.eval (.const .nilIface) = .nilIface := rfl; simp [execOp, ho, ev_sound ha hx, hc, eqGuard, binOp, Op.equal, Op.maxDepth, h 9999]
end
theorem Sx.AtH.self {H : Hl} {b : Nat} {o : Obj} {r : Obj → Hl} (h : AtH H b o r) : r o = H := by
  obtain ⟨A, B, h1, h2⟩ := h.look; rw [h1, h2]
section
variable {p : Option Addr} {cap k db q n dcap : Nat} {S : List Nat} {D : Hl} {eof shb uex hdr dic chk : Addr} {pr : Value} {c : List Value} {ty : TypeId} {r : Obj → Hl} {pd : Option Addr}

theorem read_eof (hG : GD D eof shb uex hdr dic chk) (_hl : S.length < 2 ^ 62) :
    CallsL Tryz.prog 105 #[.pointer (some ⟨k, 0, none⟩), .slice pd n dcap] ((k, srcO (.slice p S.length cap) S.length pr) :: D) fun v H' =>
      v = .tuple #[.int .i64 0, errV eof] ∧ H' = (k, srcO (.slice p S.length cap) S.length pr) :: D := by
  obtain ⟨_, _, _, hg0⟩ := hG.g0; refine CallsL_of func105 rfl ntmps105 rfl ?_
  try dsimp only [initE, Nat.zero_add]
  refine W_seq fun K1 hK1 => ?_; refine W_region ?_; refine xa rfl rfl ?_; refine xa rfl rfl ?_; refine WO_nil (sq_n (hK1 _ _ ?_)); refine W_seq fun K2 hK2 => ?_; refine W_seq fun K3 hK3 => ?_; refine W_draw mixed ?_; refine WA_k (fuel := 0) [0,1,2,3,4,5,6,7,8,9] rfl (by kernel_rfl) ?_; refine ym rfl rfl rfl ?_; refine yp rfl (v_nil rfl rfl) rfl ?_; refine yp rfl (v_fa (q := 1) rfl underlying77 rfl rfl sizeOf2 rfl) rfl ?_; refine yv rfl (ld rfl rfl isAgg2) rfl ?_; refine ym rfl rfl rfl ?_; refine yp rfl (v_nil rfl rfl) rfl ?_; refine yp rfl (v_fa (q := 0) rfl underlying77 rfl rfl sizeOf22 rfl) rfl ?_; refine yv rfl (ld rfl rfl isAgg22) rfl ?_; refine yp rfl (v_len rfl underlying22 rfl) rfl ?_; refine yp rfl (v_ge rfl rfl rfl (dT (by omega))) rfl ?_; refine WK_nil ?_; refine WA_nil (by kernel_rfl) (sq_n (hK3 _ _ ?_)); refine W.keep [0,1,4,5,15] rfl ?_; refine W_cond_t rfl ?_
  refine W_seq fun K4 hK4 => ?_; refine W_draw mixed ?_; refine WA_k (fuel := 0) [0,1,2] rfl (by kernel_rfl) ?_; refine yv rfl (ld rfl rfl isAgg47) rfl ?_; refine yp rfl (v_as rfl rfl) rfl ?_; refine yp rfl (v_as rfl rfl) rfl ?_; refine WK_nil ?_; refine WA_nil (by kernel_rfl) (sq_n (hK4 _ _ ?_)); refine W_ret (sq_r (ret_of (v := _) rfl ?_)); exact ⟨rfl, rfl⟩
theorem read_some {i m : Nat} (hd : Dat p S D) (hl : S.length < 2 ^ 62) (hi : i < S.length) (hcap : S.length ≤ cap) (hat : AtH D db (.cells (List.toArray c) ty (0, 0)) r) (_hn : 0 < n) (hm : min n (S.length - i) = m) (hq : q + n ≤ c.length) :
    CallsL Tryz.prog 105 #[.pointer (some ⟨k, 0, none⟩), .slice (some ⟨db, q, none⟩) n dcap] ((k, srcO (.slice p S.length cap) i pr) :: D) fun v H' =>
      v = .tuple #[iV m, .nilIface] ∧ H' = (k, srcO (.slice p S.length cap) (i + m) (.int .i64 (-1))) :: r (.cells (List.toArray (put c q (((S.drop i).take m).map bV))) ty (0, 0)) := by
  have hrd : ∀ o : Obj, Rd 1 (pmv p cap i 1) (((S.drop i).take m).map bV) m ((k, o) :: D) := fun o => by
    have h := ((hd.cons (k, o)).sub (l := i) (u := i + m) (m := cap) (by omega) (by omega)); rw [List.drop_take, Nat.add_sub_cancel_left] at h; have := h.rd; rwa [List.length_take, List.length_drop, show min m (S.length - i) = m by omega] at this
  refine CallsL_of func105 rfl ntmps105 rfl ?_
  try dsimp only [initE, Nat.zero_add]
  refine W_seq fun K1 hK1 => ?_; refine W_region ?_; refine xa rfl rfl ?_; refine xa rfl rfl ?_; refine WO_nil (sq_n (hK1 _ _ ?_)); refine W_seq fun K2 hK2 => ?_; refine W_seq fun K3 hK3 => ?_; refine W_draw mixed ?_; refine WA_k (fuel := 0) [0,1,2,3,4,5,6,7,8,9] rfl (by kernel_rfl) ?_; refine ym rfl rfl rfl ?_; refine yp rfl (v_nil rfl rfl) rfl ?_; refine yp rfl (v_fa (q := 1) rfl underlying77 rfl rfl sizeOf2 rfl) rfl ?_; refine yv rfl (ld rfl rfl isAgg2) rfl ?_; refine ym rfl rfl rfl ?_; refine yp rfl (v_nil rfl rfl) rfl ?_; refine yp rfl (v_fa (q := 0) rfl underlying77 rfl rfl sizeOf22 rfl) rfl ?_; refine yv rfl (ld rfl rfl isAgg22) rfl ?_; refine yp rfl (v_len rfl underlying22 rfl) rfl ?_; refine yp rfl (v_ge rfl rfl rfl (dF (by omega))) rfl ?_; refine WK_nil ?_; refine WA_nil (by kernel_rfl) (sq_n (hK3 _ _ ?_)); refine W.keep [0,1,4,5,15] rfl ?_; refine W_cond_f rfl ?_
  refine W_skip (sq_n (hK2 _ _ ?_)); refine W_seq fun K4 hK4 => ?_; refine W_region ?_; refine xm rfl rfl ?_; refine xn rfl rfl ?_; refine xp (v_fa (q := 2) rfl underlying77 rfl rfl sizeOf3 rfl) rfl ?_; refine wst rfl rfl rfl sizeOf3 rfl rfl rfl ?_; refine WO_nil (sq_n (hK4 _ _ ?_)); refine W.keep [0,1,4,5] rfl ?_; refine W_seq fun K5 hK5 => ?_; refine W_draw mixed ?_; refine WA_k (fuel := 2) [0,1,2,3,4,5,6,7,8,9] rfl (by kernel_rfl) ?_; refine ym rfl rfl rfl ?_; refine ym rfl rfl rfl ?_; refine yp rfl (v_nil rfl rfl) rfl ?_; refine yp rfl (v_fa (q := 0) rfl underlying77 rfl rfl sizeOf22 rfl) rfl ?_; refine yv rfl (ld rfl rfl isAgg22) rfl ?_; refine ym rfl rfl rfl ?_; refine yp rfl (v_nil rfl rfl) rfl ?_; refine yp rfl (v_fa (q := 1) rfl underlying77 rfl rfl sizeOf2 rfl) rfl ?_; refine yv rfl (ld rfl rfl isAgg2) rfl ?_
  refine yp rfl (v_slp rfl underlying22 sizeOf5 rfl .none .none (.some rfl) (by omega) (by omega) (by omega) (by decide)) rfl ?_; refine WK_nil ?_; refine WA_one (k := 10) rfl (by kernel_rfl) ?_; refine ws (v_cp rfl rfl underlying22 sizeOf5 rfl rfl (k := m) (by omega) (hrd _) (fun u hu => by obtain ⟨_, _, rfl⟩ := List.mem_map.1 hu; rfl) (by omega)) rfl rfl rfl ?_; rintro _ _ ⟨rfl, rfl⟩; refine WO_nil (sq_n ?_); refine WA_k (fuel := 0) [11] rfl (by kernel_rfl) ?_; refine yp rfl (v_as rfl rfl) rfl ?_; refine WK_nil ?_; refine WA_nil (by kernel_rfl) (sq_n (hK5 _ _ ?_)); refine W.keep [0,5,4] rfl ?_; refine W_seq fun K6 hK6 => ?_; refine W_region ?_; refine xm rfl rfl ?_; refine xn rfl rfl ?_; refine xp (v_fa (q := 1) rfl underlying77 rfl rfl sizeOf2 rfl) rfl ?_; refine xv (ld rfl rfl isAgg2) rfl ?_; refine xm rfl rfl ?_; refine xp (n_add rfl rfl rfl kI (by omega)) rfl ?_
  refine xn rfl rfl ?_; refine xp (v_fa (q := 1) rfl underlying77 rfl rfl sizeOf2 rfl) rfl ?_; refine wst rfl rfl rfl sizeOf2 rfl rfl rfl ?_; refine WO_nil (sq_n (hK6 _ _ ?_)); refine W.keep [5,4] rfl ?_; refine W_ret (ret_of (v := _) rfl ?_); exact ⟨rfl, rfl⟩
theorem pmv_zero {b o m : Nat} : pmv (some ⟨b, o, none⟩) m 0 1 = some ⟨b, o, none⟩ := by
  rw [pmv_some]; split <;> simp
/-- io.ReadAtLeast of all of a buffer -/
theorem readAtLeast_spec {i : Nat} (hG : GD D eof shb uex hdr dic chk) (hd : Dat p S D) (hl : S.length < 2 ^ 62) (hi : i ≤ S.length) (hcap : S.length ≤ cap) (hat : AtH D db (.cells (List.toArray c) ty (0, 0)) r) (hn : 0 < n) (hdc : n ≤ dcap) (hnl : n < 2 ^ 62) (hq : q + n ≤ c.length) (hGr : GD (r (.cells (List.toArray (put c q (((S.drop i).take n).map bV))) ty (0, 0))) eof shb uex hdr dic chk) :
    CallsL Tryz.prog 61 #[.iface 42 (.pointer (some ⟨k, 0, none⟩)), .slice (some ⟨db, q, none⟩) n dcap, iV n] ((k, srcO (.slice p S.length cap) i pr) :: D) fun v H' => ∃ pr',
      (n ≤ S.length - i ∧ v = .tuple #[iV n, .nilIface] ∧ H' = (k, srcO (.slice p S.length cap) (i + n) pr') :: r (.cells (List.toArray (put c q (((S.drop i).take n).map bV))) ty (0, 0))) ∨
      (S.length - i < n ∧ v = .tuple #[iV (S.length - i), if S.length = i then errV eof else errV uex] ∧ H' = (k, srcO (.slice p S.length cap) S.length pr') :: r (.cells (List.toArray (put c q (((S.drop i).take n).map bV))) ty (0, 0))) := by
  obtain ⟨m0, hm0⟩ : ∃ m0, m0 = min n (S.length - i) := ⟨_, rfl⟩; have htk : (S.drop i).take n = (S.drop i).take m0 := by
    rw [hm0]; rcases Nat.le_total n (S.length - i) with h | h
    · rw [Nat.min_eq_left h]
    · rw [Nat.min_eq_right h, List.take_of_length_le (by simp; omega), List.take_of_length_le (by simp)]
  rw [htk] at hGr ⊢; obtain ⟨_, _, _, hg0⟩ := hGr.g0; obtain ⟨_, _, _, hg4⟩ := hGr.g4; obtain ⟨D2, hD2⟩ : ∃ D2, D2 = r (.cells (List.toArray (put c q (((S.drop i).take m0).map bV))) ty (0, 0)) := ⟨_, rfl⟩; rw [← hD2] at hGr hg0 hg4 ⊢; have hz : m0 = 0 → D2 = D := fun h => by rw [hD2, h]; simp only [List.take_zero, List.map_nil, put_nil]; exact hat.self
  refine CallsL_of func61 rfl ntmps61 rfl ?_
  try dsimp only [initE, Nat.zero_add]
  refine W_seq fun K1 hK1 => ?_; refine W_region ?_; refine xa rfl rfl ?_; refine xa rfl rfl ?_; refine WO_nil (sq_n (hK1 _ _ ?_)); refine W_seq fun K2 hK2 => ?_; refine W_seq fun K3 hK3 => ?_; refine W_region ?_; refine xm rfl rfl ?_; refine xp (v_len rfl underlying22 rfl) rfl ?_; refine xm rfl rfl ?_; refine xp (v_lt rfl rfl rfl (dF (by omega))) rfl ?_; refine WO_nil (sq_n (hK3 _ _ ?_)); refine W.keep [0,1,2,6,7,12] rfl ?_; refine W_cond_f rfl ?_; refine W_skip (sq_n (hK2 _ _ ?_)); refine W_seq fun K4 hK4 => ?_; refine W_block ?_
  refine W_loop (fun m E H => ∃ cnt e pr D', Sub E [(0, .iface 42 (.pointer (some ⟨k, 0, none⟩))), (1, .slice (some ⟨db, q, none⟩) n dcap), (2, iV n), (6, iV cnt), (7, e)] ∧ H = (k, srcO (.slice p S.length cap) (i + cnt) pr) :: D' ∧ ((m = 2 ∧ cnt = 0 ∧ e = .nilIface ∧ D' = D) ∨ (m = 1 ∧ m0 = cnt ∧ 0 < cnt ∧ e = .nilIface ∧ D' = D2) ∨ (m = 0 ∧ m0 = cnt ∧ cnt < n ∧ e = errV eof ∧ D' = D2))) (m := _) (⟨0, .nilIface, pr, D, ⟨rfl, rfl, rfl, rfl, rfl, trivial⟩, rfl, .inl ⟨rfl, rfl, rfl, rfl⟩⟩) ?_; clear hg0 hg4; rintro m E H ⟨cnt, e, pr, D', hE, rfl, hst⟩; refine W.env hE ?_; refine W_seq fun K5 hK5 => ?_; refine W_seq fun K6 hK6 => ?_; rcases hst with ⟨rfl, rfl, rfl, rfl⟩ | ⟨rfl, rfl, h0, rfl, rfl⟩ | ⟨rfl, rfl, h0, rfl, rfl⟩
  · refine W_region ?_; refine xm rfl rfl ?_; refine xm rfl rfl ?_; refine xp (v_lt rfl rfl rfl (dT (by omega))) rfl ?_; refine xm rfl rfl ?_; refine xm rfl rfl ?_; refine xp (v_eqnn rfl rfl) rfl ?_; refine xp (v_pt rfl rfl rfl) rfl ?_; refine WO_nil (sq_n (hK6 _ _ ?_)); refine W_cond_t rfl ?_; refine W_skip (sq_n (hK5 _ _ ?_)); refine W_block ?_; refine W_seq fun K7 hK7 => ?_; refine W_region ?_; refine xa rfl rfl ?_; refine WO_nil (sq_n (hK7 _ _ ?_)); refine W_seq fun K8 hK8 => ?_; by_cases hi2 : i < S.length
    · refine W_draw mixed ?_; refine WA_k (fuel := 6) [0,1,2,3,4,5,6] rfl (by kernel_rfl) ?_; refine ym rfl rfl rfl ?_; refine ym rfl rfl rfl ?_; refine ym rfl rfl rfl ?_; refine yp rfl (v_slp rfl underlying22 sizeOf5 rfl .none .none (.some rfl) (by omega) (by omega) (by omega) (by decide)) rfl ?_; refine yp rfl (v_mf rfl rfl) rfl ?_; refine yp rfl (v_any (.func (.method "Read") #[.iface 42 (.pointer (some ⟨k, 0, none⟩))] #[]) rfl rfl (by intro w; kernel_rfl)) rfl ?_; refine ym rfl rfl rfl ?_; refine WK_nil ?_; refine WA_one (k := 7) rfl (by kernel_rfl) ?_; rw [pmv_zero]; refine wc (e_i rfl rfl rfl (m_Read42 k) call105) rfl rfl rfl (read_some (k := k) (cap := cap) (pr := pr) (n := n) (m := m0) hd hl hi2 hcap hat hn hm0.symm hq) .all ?_; rintro _ _ ⟨rfl, rfl⟩; rw [← hD2]; (try simp only [ap4]); refine WO_nil (sq_n ?_); refine WA_k (fuel := 0) [8,9,10,11,12] rfl (by kernel_rfl) ?_
      refine ym rfl rfl rfl ?_; refine yp rfl (v_ex rfl rfl rfl) rfl ?_; refine yp rfl (v_ex rfl rfl rfl) rfl ?_; refine yp rfl (v_as rfl rfl) rfl ?_; refine yp rfl (v_as rfl rfl) rfl ?_; refine WK_nil ?_; refine WA_nil (by kernel_rfl) (sq_n (hK8 _ _ ?_)); refine W_region ?_; refine xm rfl rfl ?_; refine xm rfl rfl ?_; refine xp (n_add rfl rfl rfl kI (by omega)) rfl ?_; refine xa rfl rfl ?_; refine WO_nil (bl_n (sq_n (?_))); first
      | (have hq2 := hiS; rw [← hiS]; exact ⟨0, by omega, _, _, _, _, ⟨rfl, rfl, rfl, rfl, rfl, trivial⟩, rfl, .inr (.inr ⟨rfl, by omega, by omega, rfl, rfl⟩)⟩)
      | (have hq2 := hi2; exact ⟨1, by omega, _, _, _, _, ⟨rfl, rfl, rfl, rfl, rfl, trivial⟩, (by rw [Nat.zero_add]), .inr (.inl ⟨rfl, by omega, by omega, rfl, rfl⟩)⟩)
      | exact ⟨0, by omega, _, _, _, _, ⟨rfl, rfl, rfl, rfl, rfl, trivial⟩, rfl, .inr (.inr ⟨rfl, by omega, by omega, rfl, (hz (by omega)).symm⟩)⟩
    · obtain rfl : i = S.length := by omega
      refine W_draw mixed ?_; refine WA_k (fuel := 6) [0,1,2,3,4,5,6] rfl (by kernel_rfl) ?_; refine ym rfl rfl rfl ?_; refine ym rfl rfl rfl ?_; refine ym rfl rfl rfl ?_; refine yp rfl (v_slp rfl underlying22 sizeOf5 rfl .none .none (.some rfl) (by omega) (by omega) (by omega) (by decide)) rfl ?_; refine yp rfl (v_mf rfl rfl) rfl ?_; refine yp rfl (v_any (.func (.method "Read") #[.iface 42 (.pointer (some ⟨k, 0, none⟩))] #[]) rfl rfl (by intro w; kernel_rfl)) rfl ?_; refine ym rfl rfl rfl ?_; refine WK_nil ?_; refine WA_one (k := 7) rfl (by kernel_rfl) ?_; refine wc (e_i rfl rfl rfl (m_Read42 k) call105) rfl rfl rfl (read_eof (k := k) (cap := cap) (pr := pr) (p := p) (S := S) hG hl) .all ?_; rintro _ _ ⟨rfl, rfl⟩; (try simp only [ap4]); refine WO_nil (sq_n ?_); refine WA_k (fuel := 0) [8,9,10,11,12] rfl (by kernel_rfl) ?_; refine ym rfl rfl rfl ?_; refine yp rfl (v_ex rfl rfl rfl) rfl ?_
      refine yp rfl (v_ex rfl rfl rfl) rfl ?_; refine yp rfl (v_as rfl rfl) rfl ?_; refine yp rfl (v_as rfl rfl) rfl ?_; refine WK_nil ?_; refine WA_nil (by kernel_rfl) (sq_n (hK8 _ _ ?_)); refine W_region ?_; refine xm rfl rfl ?_; refine xm rfl rfl ?_; refine xp (n_add rfl rfl rfl kI (by omega)) rfl ?_; refine xa rfl rfl ?_; refine WO_nil (bl_n (sq_n (?_))); first
      | (have hq2 := hiS; rw [← hiS]; exact ⟨0, by omega, _, _, _, _, ⟨rfl, rfl, rfl, rfl, rfl, trivial⟩, rfl, .inr (.inr ⟨rfl, by omega, by omega, rfl, rfl⟩)⟩)
      | (have hq2 := hi2; exact ⟨1, by omega, _, _, _, _, ⟨rfl, rfl, rfl, rfl, rfl, trivial⟩, (by rw [Nat.zero_add]), .inr (.inl ⟨rfl, by omega, by omega, rfl, rfl⟩)⟩)
      | exact ⟨0, by omega, _, _, _, _, ⟨rfl, rfl, rfl, rfl, rfl, trivial⟩, rfl, .inr (.inr ⟨rfl, by omega, by omega, rfl, (hz (by omega)).symm⟩)⟩
  · by_cases h1 : m0 < n
    · refine W_region ?_; refine xm rfl rfl ?_; refine xm rfl rfl ?_; refine xp (v_lt rfl rfl rfl (dT (by omega))) rfl ?_; refine xm rfl rfl ?_; refine xm rfl rfl ?_; refine xp (v_eqnn rfl rfl) rfl ?_; refine xp (v_pt rfl rfl rfl) rfl ?_; refine WO_nil (sq_n (hK6 _ _ ?_)); refine W_cond_t rfl ?_; refine W_skip (sq_n (hK5 _ _ ?_)); refine W_block ?_; refine W_seq fun K9 hK9 => ?_; refine W_region ?_; refine xa rfl rfl ?_; refine WO_nil (sq_n (hK9 _ _ ?_)); refine W_seq fun K10 hK10 => ?_; have hiS : i + m0 = S.length := by omega
      rw [hiS]; refine W_draw mixed ?_; refine WA_k (fuel := 6) [0,1,2,3,4,5,6] rfl (by kernel_rfl) ?_; refine ym rfl rfl rfl ?_; refine ym rfl rfl rfl ?_; refine ym rfl rfl rfl ?_; refine yp rfl (v_slp rfl underlying22 sizeOf5 rfl .none .none (.some rfl) (by omega) (by omega) (by omega) (by decide)) rfl ?_; refine yp rfl (v_mf rfl rfl) rfl ?_; refine yp rfl (v_any (.func (.method "Read") #[.iface 42 (.pointer (some ⟨k, 0, none⟩))] #[]) rfl rfl (by intro w; kernel_rfl)) rfl ?_; refine ym rfl rfl rfl ?_; refine WK_nil ?_; refine WA_one (k := 7) rfl (by kernel_rfl) ?_; refine wc (e_i rfl rfl rfl (m_Read42 k) call105) rfl rfl rfl (read_eof (k := k) (cap := cap) (pr := pr) (p := p) (S := S) hGr hl) .all ?_; rintro _ _ ⟨rfl, rfl⟩; (try simp only [ap4]); refine WO_nil (sq_n ?_); refine WA_k (fuel := 0) [8,9,10,11,12] rfl (by kernel_rfl) ?_; refine ym rfl rfl rfl ?_
      refine yp rfl (v_ex rfl rfl rfl) rfl ?_; refine yp rfl (v_ex rfl rfl rfl) rfl ?_; refine yp rfl (v_as rfl rfl) rfl ?_; refine yp rfl (v_as rfl rfl) rfl ?_; refine WK_nil ?_; refine WA_nil (by kernel_rfl) (sq_n (hK10 _ _ ?_)); refine W_region ?_; refine xm rfl rfl ?_; refine xm rfl rfl ?_; refine xp (n_add rfl rfl rfl kI (by omega)) rfl ?_; refine xa rfl rfl ?_; refine WO_nil (bl_n (sq_n (?_))); first
      | (have hq2 := hiS; rw [← hiS]; exact ⟨0, by omega, _, _, _, _, ⟨rfl, rfl, rfl, rfl, rfl, trivial⟩, rfl, .inr (.inr ⟨rfl, by omega, by omega, rfl, rfl⟩)⟩)
      | (have hq2 := hi2; exact ⟨1, by omega, _, _, _, _, ⟨rfl, rfl, rfl, rfl, rfl, trivial⟩, (by rw [Nat.zero_add]), .inr (.inl ⟨rfl, by omega, by omega, rfl, rfl⟩)⟩)
      | exact ⟨0, by omega, _, _, _, _, ⟨rfl, rfl, rfl, rfl, rfl, trivial⟩, rfl, .inr (.inr ⟨rfl, by omega, by omega, rfl, (hz (by omega)).symm⟩)⟩
    · refine W_region ?_; refine xm rfl rfl ?_; refine xm rfl rfl ?_; refine xp (v_lt rfl rfl rfl (dF (by omega))) rfl ?_; refine xm rfl rfl ?_; refine xno rfl ?_; refine xno rfl ?_; refine xp (v_pf rfl rfl rfl) rfl ?_; refine WO_nil (sq_n (hK6 _ _ ?_)); refine W_cond_f rfl ?_; refine W_exit (sq_x (sq_x (bl_x (sq_n (hK4 _ _ ?_))))); refine W.keep [2,6,7] rfl ?_; refine W_seq fun K11 hK11 => ?_; refine W_seq fun K12 hK12 => ?_; refine W_region ?_; refine xm rfl rfl ?_; refine xm rfl rfl ?_; refine xp (v_ge rfl rfl rfl (dT (by omega))) rfl ?_; refine WO_nil (sq_n (hK12 _ _ ?_)); refine W.keep [6,7,37] rfl ?_; refine W_cond_t rfl ?_; refine W_region ?_; refine xa rfl rfl ?_; refine WO_nil (sq_n (hK11 _ _ ?_)); refine W_ret (ret_of (v := _) rfl ?_); obtain rfl : m0 = n := by omega
      exact ⟨_, .inl ⟨by omega, rfl, by rw [hD2]⟩⟩
  · refine W_region ?_; refine xm rfl rfl ?_; refine xm rfl rfl ?_; refine xp (v_lt rfl rfl rfl (dT (by omega))) rfl ?_; refine xm rfl rfl ?_; refine xm rfl rfl ?_; refine xp (v_eqin rfl rfl rfl) rfl ?_; refine xp (v_pt rfl rfl rfl) rfl ?_; refine WO_nil (sq_n (hK6 _ _ ?_)); refine W_cond_f rfl ?_; refine W_exit (sq_x (sq_x (bl_x (sq_n (hK4 _ _ ?_))))); refine W.keep [2,6,7] rfl ?_; refine W_seq fun K13 hK13 => ?_; refine W_seq fun K14 hK14 => ?_; refine W_region ?_; refine xm rfl rfl ?_; refine xm rfl rfl ?_; refine xp (v_ge rfl rfl rfl (dF (by omega))) rfl ?_; refine WO_nil (sq_n (hK14 _ _ ?_)); refine W.keep [6,7,37] rfl ?_; refine W_cond_f rfl ?_; refine W_seq fun K15 hK15 => ?_; obtain ⟨_, _, _, hg0⟩ := hGr.g0; obtain ⟨_, _, _, hg4⟩ := hGr.g4; have hiS : i + m0 = S.length := by omega
    have hmS : m0 = S.length - i := by omega
    rw [hiS]; by_cases hm00 : m0 = 0
    · refine W_region ?_; refine xm rfl rfl ?_; refine xp (v_gt rfl rfl rfl (dF (by omega))) rfl ?_; refine xm rfl rfl ?_; refine xno rfl ?_; refine xno rfl ?_; refine xno rfl ?_; refine xp (v_pf rfl rfl rfl) rfl ?_; refine WO_nil (sq_n (hK15 _ _ ?_)); refine W.keep [6,7,44] rfl ?_; refine W_cond_f rfl ?_; refine W_skip (sq_n (hK13 _ _ ?_)); refine W_ret (ret_of (v := _) rfl ?_); refine ⟨_, .inr ⟨by omega, ?_, rfl⟩⟩; rw [if_pos (by omega), ← hmS]
    · refine W_region ?_; refine xm rfl rfl ?_; refine xp (v_gt rfl rfl rfl (dT (by omega))) rfl ?_; refine xm rfl rfl ?_; refine xm rfl rfl ?_; refine xv (ld rfl rfl isAgg47) rfl ?_; refine xp (v_eqs rfl rfl rfl) rfl ?_; refine xp (v_pt rfl rfl rfl) rfl ?_; refine WO_nil (sq_n (hK15 _ _ ?_)); refine W.keep [6,7,44] rfl ?_; refine W_cond_t rfl ?_; refine W_region ?_; refine xv (ld rfl rfl isAgg47) rfl ?_; refine xa rfl rfl ?_; refine WO_nil (sq_n (hK13 _ _ ?_)); refine W_ret (ret_of (v := _) rfl ?_); refine ⟨_, .inr ⟨by omega, ?_, rfl⟩⟩; rw [if_neg (by omega), ← hmS]
end
end Go.Proofs.YtpbahgddoamhgaaGreatDoor
namespace Go.Proofs.YtpbahgddoamhgaaGreatDoor
open Go.Proofs.Tryz
open Go Sx Pu
set_option maxRecDepth 10000

def fixJ (j : Nat) : List Nat := (List.range 288).map fun i => if i < j then fixf i else 0
theorem fixJ_step {j v : Nat} (h : fixf j = v) : (fixJ j).set j v = fixJ (j + 1) := by
  refine map_range_set' ?_ fun i _ hi => ?_
  · rw [if_pos (by omega)]; exact h
  · by_cases h1 : i < j
    · rw [if_pos h1, if_pos (by omega)]
    · rw [if_neg h1, if_neg (by omega)]
theorem fixJ_zero : fixJ 0 = List.replicate 288 0 := by
  unfold fixJ; apply List.ext_getElem
  · rw [List.length_map, List.length_range, List.length_replicate]
  · intro i h1 h2; rw [List.getElem_map, List.getElem_replicate, if_neg (by omega)]
theorem fixJ_all : fixJ 288 = fixL := by
  unfold fixJ fixL; apply List.map_congr_left; intro i hi; rw [if_pos (by simpa using hi)]
theorem fixL_len : fixL.length = 288 := by simp [fixL]
theorem fixL_ok : okCode fixL = true := by kernel_rfl
theorem fixL_mn : mn fixL fixL.length = 7 := by kernel_rfl
theorem fixL_15 : ∀ x ∈ fixL, x ≤ 15 := by
  intro x hx; obtain ⟨i, _, rfl⟩ := List.mem_map.1 hx; unfold fixf
  split
  · omega
  · split
    · omega
    · split <;> omega
theorem zv174 (w : World) : (zeroValue 174).run Tryz.prog w = .ok (.agg (List.toArray ((List.replicate 288 0).map iV))) w := by kernel_rfl
theorem zv138 (w : World) : (zeroValue 138).run Tryz.prog w = .ok (.agg (List.toArray zc138)) w := by kernel_rfl
theorem hcl_nil : zc138 = hcl [] 0 (List.replicate 512 0) (.slice none 0 0) 0 [] := by
  unfold hcl zc138; rw [List.append_nil, List.nil_append]
section
variable {D : Hl}
theorem init_m {p : Option Addr} {cap hb q : Nat} {L ch : List Nat} {A Z : List Value} {min mask m : Nat} {lv : Value} {ty : TypeId} (hm : L.length = m) (hd : DatI p L D) (hL : L.length ≤ 320) (h15 : ∀ x ∈ L, x ≤ 15) (hA : A.length = q) (hc : ch.length = 512) (hz : min = 0 → ch = List.replicate 512 0) (hmk : mask < 2 ^ 32) :
    CallsL Tryz.prog 78 #[.pointer (some ⟨hb, q, none⟩), .slice p m cap] ((hb, .cells (List.toArray (hcl A min ch lv mask Z)) ty (0, 0)) :: D) fun v H' =>
      (okCode L = false ∧ v = .bool false ∧ ∃ lv' mask', mask' < 2 ^ 32 ∧ H' = (hb, .cells (List.toArray (hcl A 0 (List.replicate 512 0) lv' mask' Z)) ty (0, 0)) :: D) ∨
      (okCode L = true ∧ v = .bool true ∧ ∃ ch' lv' mask' tabs G, H' = (hb, .cells (List.toArray (hcl A (mn L L.length) ch' lv' mask' Z)) ty (0, 0)) :: (G ++ D) ∧
        ch'.length = 512 ∧ (mn L L.length = 0 → ch' = List.replicate 512 0) ∧ LK G lv' tabs ∧ Huf ch' mask' tabs L) := by
  subst hm; exact init_spec hd hL h15 hA hc hz hmk
theorem fixedHuffman_spec : CallsL Tryz.prog 71 #[] D fun v H' => ∃ hb ch lv mask tabs G, v = .pointer (some ⟨hb, 0, none⟩) ∧ H' = (hb, .cells (List.toArray (hcl [] 7 ch lv mask [])) 138 (0, 0)) :: (G ++ D) ∧ ch.length = 512 ∧ LK G lv tabs ∧ Huf ch mask tabs fixL := by
  have hfl : ∀ j, (fixJ j).length = 288 := fun j => by simp [fixJ]
  refine CallsL_of func71 rfl ntmps71 rfl ?_
  try dsimp only [initE, Nat.zero_add]
  refine W_seq fun K1 hK1 => ?_; refine W_region ?_; refine xa rfl rfl ?_; refine WO_nil (sq_n (hK1 _ _ ?_)); refine W_seq fun K2 hK2 => ?_; refine W_region ?_; refine wf (v_ala rfl zv174) rfl rfl rfl ?_; intro b1 _; refine WO_nil (sq_n (hK2 _ _ ?_)); refine W_seq fun K3 hK3 => ?_; refine W_seq fun K4 hK4 => ?_; refine W_region ?_; refine xa rfl rfl ?_; refine WO_nil (sq_n (hK4 _ _ ?_)); refine W_block ?_; refine W_loop (fun m E H => ∃ j, j ≤ 144 ∧ m = 144 - j ∧ Sub E [(1, .pointer (some ⟨b1, 0, none⟩)), (2, iV j)] ∧ H = (b1, .cells (List.toArray ((fixJ j).map iV)) 174 (0, 0)) :: D) (m := _) (⟨0, by omega, rfl, ⟨rfl, rfl, trivial⟩, by rw [fixJ_zero]⟩) ?_; rintro m E H ⟨j, hj, rfl, hE, rfl⟩; refine W.env hE ?_; have hl := hfl j; refine W_seq fun K5 hK5 => ?_; refine W_seq fun K6 hK6 => ?_; refine W_region ?_; refine xm rfl rfl ?_; refine xp (n_lt rfl rfl rfl) rfl ?_
  refine WO_nil (sq_n (hK6 _ _ ?_)); refine W_cond rfl (fun hc0 => ?_) (fun hc0 => ?_)
  · replace hc0 := of_decide_eq_true hc0; refine W_skip (sq_n (hK5 _ _ ?_)); refine W_seq fun K7 hK7 => ?_; refine W_block ?_; refine W_region ?_; refine xm rfl rfl ?_; refine xp (v_ixa rfl underlying174 sizeOf3 rfl rfl (by omega)) rfl ?_; refine wst' rfl rfl rfl sizeOf3 rfl rfl (by rw [List.length_map]; omega) rfl rfl ?_; refine WO_nil (bl_n (sq_n (hK7 _ _ ?_))); refine W_region ?_; refine xm rfl rfl ?_; refine xp (n_add rfl rfl rfl kI (by omega)) rfl ?_; refine xa rfl rfl ?_; refine WO_nil (sq_n (?_)); rw [show (Value.int .i64 8) = iV 8 from rfl, ← List.map_set, fixJ_step (by unfold fixf; rw [if_pos (by omega)])]; exact ⟨_, by omega, j + 1, by omega, rfl, ⟨rfl, rfl, trivial⟩, rfl⟩
  · replace hc0 := of_decide_eq_false hc0; obtain rfl : j = 144 := by omega
    refine W_exit (sq_x (sq_x (bl_x (sq_n (hK3 _ _ ?_))))); refine W.keep [1] rfl ?_; refine W_seq fun K8 hK8 => ?_; refine W_seq fun K9 hK9 => ?_; refine W_region ?_; refine xa rfl rfl ?_; refine WO_nil (sq_n (hK9 _ _ ?_)); refine W_block ?_; refine W_loop (fun m E H => ∃ j, 144 ≤ j ∧ j ≤ 256 ∧ m = 256 - j ∧ Sub E [(1, .pointer (some ⟨b1, 0, none⟩)), (3, iV j)] ∧ H = (b1, .cells (List.toArray ((fixJ j).map iV)) 174 (0, 0)) :: D) (m := _) (⟨144, by omega, by omega, rfl, ⟨rfl, rfl, trivial⟩, rfl⟩) ?_; rintro m E H ⟨j, hj0, hj, rfl, hE, rfl⟩; refine W.env hE ?_; have hl := hfl j; refine W_seq fun K10 hK10 => ?_; refine W_seq fun K11 hK11 => ?_; refine W_region ?_; refine xm rfl rfl ?_; refine xp (n_lt rfl rfl rfl) rfl ?_; refine WO_nil (sq_n (hK11 _ _ ?_)); refine W_cond rfl (fun hc1 => ?_) (fun hc1 => ?_)
    · replace hc1 := of_decide_eq_true hc1; refine W_skip (sq_n (hK10 _ _ ?_)); refine W_seq fun K12 hK12 => ?_; refine W_block ?_; refine W_region ?_; refine xm rfl rfl ?_; refine xp (v_ixa rfl underlying174 sizeOf3 rfl rfl (by omega)) rfl ?_; refine wst' rfl rfl rfl sizeOf3 rfl rfl (by rw [List.length_map]; omega) rfl rfl ?_; refine WO_nil (bl_n (sq_n (hK12 _ _ ?_))); refine W_region ?_; refine xm rfl rfl ?_; refine xp (n_add rfl rfl rfl kI (by omega)) rfl ?_; refine xa rfl rfl ?_; refine WO_nil (sq_n (?_)); rw [show (Value.int .i64 9) = iV 9 from rfl, ← List.map_set, fixJ_step (by unfold fixf; rw [if_neg (by omega), if_pos (by omega)])]; exact ⟨_, by omega, j + 1, by omega, by omega, rfl, ⟨rfl, rfl, trivial⟩, rfl⟩
    · replace hc1 := of_decide_eq_false hc1; obtain rfl : j = 256 := by omega
      refine W_exit (sq_x (sq_x (bl_x (sq_n (hK8 _ _ ?_))))); refine W.keep [1] rfl ?_; refine W_seq fun K13 hK13 => ?_; refine W_seq fun K14 hK14 => ?_; refine W_region ?_; refine xa rfl rfl ?_; refine WO_nil (sq_n (hK14 _ _ ?_)); refine W_block ?_; refine W_loop (fun m E H => ∃ j, 256 ≤ j ∧ j ≤ 280 ∧ m = 280 - j ∧ Sub E [(1, .pointer (some ⟨b1, 0, none⟩)), (4, iV j)] ∧ H = (b1, .cells (List.toArray ((fixJ j).map iV)) 174 (0, 0)) :: D) (m := _) (⟨256, by omega, by omega, rfl, ⟨rfl, rfl, trivial⟩, rfl⟩) ?_; rintro m E H ⟨j, hj0, hj, rfl, hE, rfl⟩; refine W.env hE ?_; have hl := hfl j; refine W_seq fun K15 hK15 => ?_; refine W_seq fun K16 hK16 => ?_; refine W_region ?_; refine xm rfl rfl ?_; refine xp (n_lt rfl rfl rfl) rfl ?_; refine WO_nil (sq_n (hK16 _ _ ?_)); refine W_cond rfl (fun hc2 => ?_) (fun hc2 => ?_)
      · replace hc2 := of_decide_eq_true hc2; refine W_skip (sq_n (hK15 _ _ ?_)); refine W_seq fun K17 hK17 => ?_; refine W_block ?_; refine W_region ?_; refine xm rfl rfl ?_; refine xp (v_ixa rfl underlying174 sizeOf3 rfl rfl (by omega)) rfl ?_; refine wst' rfl rfl rfl sizeOf3 rfl rfl (by rw [List.length_map]; omega) rfl rfl ?_; refine WO_nil (bl_n (sq_n (hK17 _ _ ?_))); refine W_region ?_; refine xm rfl rfl ?_; refine xp (n_add rfl rfl rfl kI (by omega)) rfl ?_; refine xa rfl rfl ?_; refine WO_nil (sq_n (?_)); rw [show (Value.int .i64 7) = iV 7 from rfl, ← List.map_set, fixJ_step (by unfold fixf; rw [if_neg (by omega), if_neg (by omega), if_pos (by omega)])]; exact ⟨_, by omega, j + 1, by omega, by omega, rfl, ⟨rfl, rfl, trivial⟩, rfl⟩
      · replace hc2 := of_decide_eq_false hc2; obtain rfl : j = 280 := by omega
        refine W_exit (sq_x (sq_x (bl_x (sq_n (hK13 _ _ ?_))))); refine W.keep [1] rfl ?_; refine W_seq fun K18 hK18 => ?_; refine W_seq fun K19 hK19 => ?_; refine W_region ?_; refine xa rfl rfl ?_; refine WO_nil (sq_n (hK19 _ _ ?_)); refine W_block ?_; refine W_loop (fun m E H => ∃ j, 280 ≤ j ∧ j ≤ 288 ∧ m = 288 - j ∧ Sub E [(1, .pointer (some ⟨b1, 0, none⟩)), (5, iV j)] ∧ H = (b1, .cells (List.toArray ((fixJ j).map iV)) 174 (0, 0)) :: D) (m := _) (⟨280, by omega, by omega, rfl, ⟨rfl, rfl, trivial⟩, rfl⟩) ?_; rintro m E H ⟨j, hj0, hj, rfl, hE, rfl⟩; refine W.env hE ?_; have hl := hfl j; refine W_seq fun K20 hK20 => ?_; refine W_seq fun K21 hK21 => ?_; refine W_region ?_; refine xm rfl rfl ?_; refine xp (n_lt rfl rfl rfl) rfl ?_; refine WO_nil (sq_n (hK21 _ _ ?_)); refine W_cond rfl (fun hc3 => ?_) (fun hc3 => ?_)
        · replace hc3 := of_decide_eq_true hc3; refine W_skip (sq_n (hK20 _ _ ?_)); refine W_seq fun K22 hK22 => ?_; refine W_block ?_; refine W_region ?_; refine xm rfl rfl ?_; refine xp (v_ixa rfl underlying174 sizeOf3 rfl rfl (by omega)) rfl ?_; refine wst' rfl rfl rfl sizeOf3 rfl rfl (by rw [List.length_map]; omega) rfl rfl ?_; refine WO_nil (bl_n (sq_n (hK22 _ _ ?_))); refine W_region ?_; refine xm rfl rfl ?_; refine xp (n_add rfl rfl rfl kI (by omega)) rfl ?_; refine xa rfl rfl ?_; refine WO_nil (sq_n (?_)); rw [show (Value.int .i64 8) = iV 8 from rfl, ← List.map_set, fixJ_step (by unfold fixf; rw [if_neg (by omega), if_neg (by omega), if_neg (by omega)])]; exact ⟨_, by omega, j + 1, by omega, by omega, rfl, ⟨rfl, rfl, trivial⟩, rfl⟩
        · replace hc3 := of_decide_eq_false hc3; obtain rfl : j = 288 := by omega
          refine W_exit (sq_x (sq_x (bl_x (sq_n (hK18 _ _ ?_))))); refine W.keep [1] rfl ?_; refine W_seq fun K23 hK23 => ?_; refine W_region ?_; refine wf (v_ala rfl zv138) rfl rfl rfl ?_; intro hb _; rw [hcl_nil, fixJ_all]; refine xa rfl rfl ?_; refine WO_nil (sq_n (hK23 _ _ ?_)); refine W_seq fun K24 hK24 => ?_; refine W_region ?_; refine xm rfl rfl ?_; refine xp (v_sla rfl underlying174 sizeOf3 rfl .none .none .none (by omega) (by omega) (by omega) (by decide)) rfl ?_; rw [pmv_zero]; refine wc (e_c rfl rfl rfl call78) rfl rfl rfl (init_m (L := fixL) (m := 288) (cap := 288) fixL_len datV_row (by rw [fixL_len]; decide) fixL_15 rfl List.length_replicate (fun _ => rfl) (by decide)) .all ?_; rintro _ _ (⟨h, _⟩ | ⟨_, rfl, ch, lv, mask, tabs, G, rfl, h1, _, h3, h4⟩)
          · rw [fixL_ok] at h; cases h
          (try simp only [ap4]); refine WO_nil (sq_n (hK24 _ _ ?_)); refine W.keep [6] rfl ?_; refine W_seq fun K25 hK25 => ?_; refine W.drop (.cons .here (.pre (.skip .all))) ?_; rw [fixL_mn]; refine W_region ?_; refine xm rfl rfl ?_; refine xa rfl rfl ?_; refine WO_nil (sq_n (hK25 _ _ ?_)); refine W_ret (ret_of (v := _) rfl ?_); exact ⟨hb, ch, lv, mask, tabs, G, rfl, rfl, h1, h3, h4⟩
end
end Go.Proofs.YtpbahgddoamhgaaGreatDoor
namespace Go.Proofs.YtpbahgddoamhgaaGreatDoor
open Go.Proofs.Tryz
open Go Sx Pu
set_option maxRecDepth 10000

abbrev fnV (k : Nat) : Value := .func (.func k) #[] #[]
section
variable {p : Option Addr} {cap k fb hb db q n dcap o : Nat} {S B Y O : List Nat} {D : Hl} {eof shb uex hdr dic chk : Addr} {pr : Value} {c : List Value} {ty : TypeId} {r : Obj → Hl} {wr rd : Nat} {full : Bool} {x : Nat × Obj} {xr xrBuf xro xb xnb xbits xcb xhist xwr xrd xfull xb0 xb1 xb2 xb3 xstep xsst xfin xerr xtr xhl xhd xcl xcd : Value} {xh1 xh2 : HD}

theorem readFull_spec {i : Nat} (hG : GD D eof shb uex hdr dic chk) (hd : Dat p S D) (hl : S.length < 2 ^ 62) (hi : i ≤ S.length) (hcap : S.length ≤ cap) (hat : AtH D db (.cells (List.toArray c) ty (0, 0)) r) (hn : 0 < n) (hdc : n ≤ dcap) (hnl : n < 2 ^ 62) (hq : q + n ≤ c.length) (hGr : GD (r (.cells (List.toArray (put c q (((S.drop i).take n).map bV))) ty (0, 0))) eof shb uex hdr dic chk) :
    CallsL Tryz.prog 51 #[.iface 42 (.pointer (some ⟨k, 0, none⟩)), .slice (some ⟨db, q, none⟩) n dcap] ((k, srcO (.slice p S.length cap) i pr) :: D) fun v H' => ∃ pr',
      (n ≤ S.length - i ∧ v = .tuple #[iV n, .nilIface] ∧ H' = (k, srcO (.slice p S.length cap) (i + n) pr') :: r (.cells (List.toArray (put c q (((S.drop i).take n).map bV))) ty (0, 0))) ∨
      (S.length - i < n ∧ v = .tuple #[iV (S.length - i), if S.length = i then errV eof else errV uex] ∧ H' = (k, srcO (.slice p S.length cap) S.length pr') :: r (.cells (List.toArray (put c q (((S.drop i).take n).map bV))) ty (0, 0))) := by
  refine CallsL_of func51 rfl ntmps51 rfl ?_
  try dsimp only [initE, Nat.zero_add]
  refine W_seq fun K1 hK1 => ?_; refine W_region ?_; refine xa rfl rfl ?_; refine xa rfl rfl ?_; refine WO_nil (sq_n (hK1 _ _ ?_)); refine W_seq fun K2 hK2 => ?_; refine W_region ?_; refine xm rfl rfl ?_; refine xm rfl rfl ?_; refine xm rfl rfl ?_; refine xp (v_len rfl underlying22 rfl) rfl ?_; refine wc (e_c rfl rfl rfl call61) rfl rfl rfl (readAtLeast_spec (k := k) (cap := cap) (pr := pr) hG hd hl hi hcap hat hn hdc hnl hq hGr) .all ?_; rintro _ _ ⟨pr', ⟨hlt, rfl, rfl⟩ | ⟨hge, rfl, rfl⟩⟩
  all_goals ((try simp only [ap4]))
  · refine xp (v_ex rfl rfl rfl) rfl ?_; refine xp (v_ex rfl rfl rfl) rfl ?_; refine xa rfl rfl ?_; refine xa rfl rfl ?_; refine WO_nil (sq_n (hK2 _ _ ?_)); refine W.keep [4,5] rfl ?_; refine W_ret (ret_of (v := _) rfl ?_); exact ⟨_, .inl ⟨hlt, rfl, rfl⟩⟩
  · refine xp (v_ex rfl rfl rfl) rfl ?_; refine xp (v_ex rfl rfl rfl) rfl ?_; refine xa rfl rfl ?_; refine xa rfl rfl ?_; refine WO_nil (sq_n (hK2 _ _ ?_)); refine W.keep [4,5] rfl ?_; refine W_ret (ret_of (v := _) rfl ?_); exact ⟨_, .inr ⟨hge, rfl, rfl⟩⟩
/-- nothing is asked for -/
theorem readAtLeast_none {v : Value} {pd : Option Addr} : CallsL Tryz.prog 61 #[v, .slice pd 0 dcap, .int .i64 0] D fun v H' => v = .tuple #[.int .i64 0, .nilIface] ∧ H' = D := by
  refine CallsL_of func61 rfl ntmps61 rfl ?_
  try dsimp only [initE, Nat.zero_add]
  refine W_seq fun K1 hK1 => ?_; refine W_region ?_; refine xa rfl rfl ?_; refine xa rfl rfl ?_; refine WO_nil (sq_n (hK1 _ _ ?_)); refine W_seq fun K2 hK2 => ?_; refine W_seq fun K3 hK3 => ?_; refine W_region ?_; refine xm rfl rfl ?_; refine xp (v_len rfl underlying22 rfl) rfl ?_; refine xm rfl rfl ?_; refine xp (v_lt rfl rfl rfl (dF (by omega))) rfl ?_; refine WO_nil (sq_n (hK3 _ _ ?_)); refine W.keep [0,1,2,6,7,12] rfl ?_; refine W_cond_f rfl ?_; refine W_skip (sq_n (hK2 _ _ ?_)); refine W_seq fun K4 hK4 => ?_; refine W_block ?_; refine W_loop (fun m E H => Sub E [(2, .int .i64 0), (6, .int .i64 0), (7, .nilIface)] ∧ H = D) (m := 0) (⟨⟨rfl, rfl, rfl, trivial⟩, rfl⟩) ?_; rintro m E H ⟨hE, rfl⟩; refine W.env hE ?_; refine W_seq fun K5 hK5 => ?_; refine W_seq fun K6 hK6 => ?_; refine W_region ?_; refine xm rfl rfl ?_; refine xm rfl rfl ?_
  refine xp (v_lt rfl rfl rfl (dF (by omega))) rfl ?_; refine xm rfl rfl ?_; refine xno rfl ?_; refine xno rfl ?_; refine xp (v_pf rfl rfl rfl) rfl ?_; refine WO_nil (sq_n (hK6 _ _ ?_)); refine W_cond_f rfl ?_; refine W_exit (sq_x (sq_x (bl_x (sq_n (hK4 _ _ ?_))))); refine W.keep [2,6,7] rfl ?_; refine W_seq fun K7 hK7 => ?_; refine W_seq fun K8 hK8 => ?_; refine W_region ?_; refine xm rfl rfl ?_; refine xm rfl rfl ?_; refine xp (v_ge rfl rfl rfl (dT (by omega))) rfl ?_; refine WO_nil (sq_n (hK8 _ _ ?_)); refine W.keep [6,7,37] rfl ?_; refine W_cond_t rfl ?_; refine W_region ?_; refine xa rfl rfl ?_; refine WO_nil (sq_n (hK7 _ _ ?_)); refine W_ret (ret_of (v := _) rfl ?_); exact ⟨rfl, rfl⟩
theorem readFull_none {v : Value} {pd : Option Addr} : CallsL Tryz.prog 51 #[v, .slice pd 0 dcap] D fun v H' => v = .tuple #[.int .i64 0, .nilIface] ∧ H' = D := by
  refine CallsL_of func51 rfl ntmps51 rfl ?_
  try dsimp only [initE, Nat.zero_add]
  refine W_seq fun K1 hK1 => ?_; refine W_region ?_; refine xa rfl rfl ?_; refine xa rfl rfl ?_; refine WO_nil (sq_n (hK1 _ _ ?_)); refine W_seq fun K2 hK2 => ?_; refine W_region ?_; refine xm rfl rfl ?_; refine xm rfl rfl ?_; refine xm rfl rfl ?_; refine xp (v_len rfl underlying22 rfl) rfl ?_; refine wc (e_c rfl rfl rfl call61) rfl rfl rfl (readAtLeast_none) .all ?_; rintro _ _ ⟨rfl, rfl⟩; (try simp only [ap4]); refine xp (v_ex rfl rfl rfl) rfl ?_; refine xp (v_ex rfl rfl rfl) rfl ?_; refine xa rfl rfl ?_; refine xa rfl rfl ?_; refine WO_nil (sq_n (hK2 _ _ ?_)); refine W.keep [4,5] rfl ?_; refine W_ret (ret_of (v := _) rfl ?_); exact ⟨rfl, rfl⟩
theorem finishBlock_spec {last : Bool} (hG : GD D eof shb uex hdr dic chk) (h1 : rd ≤ wr) (h2 : wr ≤ 32768) :
    CallsL Tryz.prog 76 #[.pointer (some ⟨fb, 0, none⟩)] ((fb, fO (fc xr xrBuf xro xb xnb xh1 xh2 xbits xcb (winV hb) (iV wr) (iV rd) (.bool full) xb0 xb1 xb2 xb3 xstep xsst (.bool last) xerr xtr xhl xhd xcl xcd)) :: D) fun _ H' =>
      (last = false ∧ H' = (fb, fO (fc xr xrBuf xro xb xnb xh1 xh2 xbits xcb (winV hb) (iV wr) (iV rd) (.bool full) xb0 xb1 xb2 xb3 (fnV 64) xsst (.bool last) xerr xtr xhl xhd xcl xcd)) :: D) ∨
      (last = true ∧ rd = wr ∧ H' = (fb, fO (fc xr xrBuf xro xb xnb xh1 xh2 xbits xcb (winV hb) (iV wr) (iV rd) (.bool full) xb0 xb1 xb2 xb3 (fnV 64) xsst (.bool last) (errV eof) xtr xhl xhd xcl xcd)) :: D) ∨
      (last = true ∧ rd < wr ∧ H' = (fb, fO (fc xr xrBuf xro xb xnb xh1 xh2 xbits xcb (winV hb) (iV (if wr = 32768 then 0 else wr)) (iV (if wr = 32768 then 0 else wr)) (.bool (if wr = 32768 then true else full)) xb0 xb1 xb2 xb3 (fnV 64) xsst (.bool last) (errV eof) (flV hb wr rd) xhl xhd xcl xcd)) :: D) := by
  obtain ⟨_, _, _, hg0⟩ := hG.g0
  cases last
  · refine CallsL_of func76 rfl ntmps76 rfl ?_
    try dsimp only [initE, Nat.zero_add]
    refine W_seq fun K1 hK1 => ?_; refine W_seq fun K2 hK2 => ?_; refine W_region ?_; refine xm rfl rfl ?_; refine xn rfl rfl ?_; refine xp (v_fa (q := 1047) rfl underlying146 rfl rfl sizeOf4 rfl) rfl ?_; refine xv (ld rfl rfl isAgg4) rfl ?_; refine WO_nil (sq_n (hK2 _ _ ?_)); refine W.keep [0,5] rfl ?_; refine W_cond_f rfl ?_; refine W_skip (sq_n (hK1 _ _ ?_)); refine W_region ?_; refine xm rfl rfl ?_; refine xn rfl rfl ?_; refine xp (v_fa (q := 1045) rfl underlying146 rfl rfl sizeOf143 rfl) rfl ?_; refine wst rfl rfl rfl sizeOf143 rfl rfl rfl ?_; refine WO_nil (end_of (v := _) rfl ?_); exact .inl ⟨rfl, rfl⟩
  · refine CallsL_of func76 rfl ntmps76 rfl ?_
    try dsimp only [initE, Nat.zero_add]
    refine W_seq fun K1 hK1 => ?_; refine W_seq fun K2 hK2 => ?_; refine W_region ?_; refine xm rfl rfl ?_; refine xn rfl rfl ?_; refine xp (v_fa (q := 1047) rfl underlying146 rfl rfl sizeOf4 rfl) rfl ?_; refine xv (ld rfl rfl isAgg4) rfl ?_; refine WO_nil (sq_n (hK2 _ _ ?_)); refine W.keep [0,5] rfl ?_; refine W_cond_t rfl ?_; refine W_seq fun K3 hK3 => ?_; refine W_seq fun K4 hK4 => ?_; refine W_region ?_; refine xm rfl rfl ?_; refine xn rfl rfl ?_; refine xp (v_fa (q := 1037) rfl underlying146 rfl rfl sizeOf142 rfl) rfl ?_; refine wc (e_c rfl rfl rfl call86) rfl rfl rfl (availRead_spec h1 h2) .all ?_; rintro _ _ ⟨rfl, rfl⟩; (try simp only [ap4]); refine xp (n_gt rfl rfl rfl) rfl ?_; refine WO_nil (sq_n (hK4 _ _ ?_)); refine W.keep [0,10] rfl ?_; refine W_cond rfl (fun hc1 => ?_) (fun hc1 => ?_)
    · replace hc1 := of_decide_eq_true hc1; refine W_region ?_; refine xm rfl rfl ?_; refine xm rfl rfl ?_; refine xn rfl rfl ?_; refine xp (v_fa (q := 1037) rfl underlying146 rfl rfl sizeOf142 rfl) rfl ?_; refine wc (e_c rfl rfl rfl call75) rfl rfl rfl (readFlush_spec h1 h2) .all ?_; rintro _ _ ⟨rfl, rfl⟩; (try simp only [ap4]); refine xn rfl rfl ?_; refine xp (v_fa (q := 1049) rfl underlying146 rfl rfl sizeOf22 rfl) rfl ?_; refine wst rfl rfl rfl sizeOf22 rfl rfl rfl ?_; refine WO_nil (sq_n (hK3 _ _ ?_)); refine W.keep [0] rfl ?_; refine W_region ?_; refine xm rfl rfl ?_; refine xv (ld rfl rfl isAgg47) rfl ?_; refine xn rfl rfl ?_; refine xp (v_fa (q := 1048) rfl underlying146 rfl rfl sizeOf47 rfl) rfl ?_; refine wst rfl rfl rfl sizeOf47 rfl rfl rfl ?_; refine WO_nil (sq_n (hK1 _ _ ?_)); refine W.keep [0] rfl ?_; refine W_region ?_; refine xm rfl rfl ?_; refine xn rfl rfl ?_
      refine xp (v_fa (q := 1045) rfl underlying146 rfl rfl sizeOf143 rfl) rfl ?_; refine wst rfl rfl rfl sizeOf143 rfl rfl rfl ?_; refine WO_nil (end_of (v := _) rfl ?_); exact .inr (.inr ⟨rfl, by omega, rfl⟩)
    · replace hc1 := of_decide_eq_false hc1; refine W_skip (sq_n (hK3 _ _ ?_)); refine W_region ?_; refine xm rfl rfl ?_; refine xv (ld rfl rfl isAgg47) rfl ?_; refine xn rfl rfl ?_; refine xp (v_fa (q := 1048) rfl underlying146 rfl rfl sizeOf47 rfl) rfl ?_; refine wst rfl rfl rfl sizeOf47 rfl rfl rfl ?_; refine WO_nil (sq_n (hK1 _ _ ?_)); refine W.keep [0] rfl ?_; refine W_region ?_; refine xm rfl rfl ?_; refine xn rfl rfl ?_; refine xp (v_fa (q := 1045) rfl underlying146 rfl rfl sizeOf143 rfl) rfl ?_; refine wst rfl rfl rfl sizeOf143 rfl rfl rfl ?_; refine WO_nil (end_of (v := _) rfl ?_); exact .inr (.inl ⟨rfl, by omega, rfl⟩)
end
end Go.Proofs.YtpbahgddoamhgaaGreatDoor
namespace Go.Proofs.YtpbahgddoamhgaaGreatDoor
open Go.Proofs.Tryz
open Go Sx Pu
set_option maxRecDepth 10000

theorem zv146 (w : World) : (zeroValue 146).run Tryz.prog w = .ok (.agg (List.toArray (fc .nilIface (.pointer none) (.int .i64 0) (.int .u32 0) (.int .u64 0) HD.zero HD.zero (.pointer none) (.pointer none) (.slice none 0 0) (.int .i64 0) (.int .i64 0) (.bool false) (.int .u8 0) (.int .u8 0) (.int .u8 0) (.int .u8 0) .nilFunc (.int .i64 0) (.bool false) .nilIface (.slice none 0 0) (.pointer none) (.pointer none) (.int .i64 0) (.int .i64 0)))) w := by kernel_rfl
theorem zv148 (w : World) : (zeroValue 148).run Tryz.prog w = .ok (.agg (List.toArray ((List.replicate 316 0).map iV))) w := by kernel_rfl
theorem zv149 (w : World) : (zeroValue 149).run Tryz.prog w = .ok (.agg (List.toArray ((List.replicate 19 0).map iV))) w := by kernel_rfl
section
variable {fb k : Nat} {D : Hl} {xr xrBuf xro xb xnb xbits xcb xhist xwr xrd xfull xb0 xb1 xb2 xb3 xstep xsst xfin xerr xtr xhl xhd xcl xcd : Value} {xh1 xh2 : HD}
theorem put_dict {a b c d : Value} : put (fc xr xrBuf xro xb xnb xh1 xh2 xbits xcb xhist xwr xrd xfull xb0 xb1 xb2 xb3 xstep xsst xfin xerr xtr xhl xhd xcl xcd) 1037 [a, b, c, d] = (fc xr xrBuf xro xb xnb xh1 xh2 xbits xcb (a) (b) (c) (d) xb0 xb1 xb2 xb3 xstep xsst xfin xerr xtr xhl xhd xcl xcd) := by
  have e : ∀ (A B C T : List Value), A.length = 5 → B.length = 515 → C.length = 515 → put (A ++ (B ++ (C ++ T))) 1037 [a, b, c, d] = A ++ (B ++ (C ++ put T 2 [a, b, c, d])) := fun A B C T hA hB hC => by
    unfold put; rw [List.take_append, List.take_append, List.take_append, List.drop_append, List.drop_append, List.drop_append, List.take_of_length_le (by omega), List.take_of_length_le (by omega), List.take_of_length_le (by omega), List.drop_eq_nil_of_le (by simp; omega), List.drop_eq_nil_of_le (by simp; omega), List.drop_eq_nil_of_le (by simp; omega), hA, hB, hC]; simp
  unfold fc; rw [e _ _ _ _ rfl (HD.cells_length _) (HD.cells_length _)]; rfl
theorem makeReader_spec : CallsL Tryz.prog 63 #[.pointer (some ⟨fb, 0, none⟩), .iface 42 (.pointer (some ⟨k, 0, none⟩))] ((fb, fO (fc xr xrBuf xro xb xnb xh1 xh2 xbits xcb xhist xwr xrd xfull xb0 xb1 xb2 xb3 xstep xsst xfin xerr xtr xhl xhd xcl xcd)) :: D) fun _ H' => H' = (fb, fO (fc (.iface 42 (.pointer (some ⟨k, 0, none⟩))) (.pointer none) xro xb xnb xh1 xh2 xbits xcb xhist xwr xrd xfull xb0 xb1 xb2 xb3 xstep xsst xfin xerr xtr xhl xhd xcl xcd)) :: D := by
  refine CallsL_of func63 rfl ntmps63 rfl ?_
  try dsimp only [initE, Nat.zero_add]
  refine W_seq fun K1 hK1 => ?_; refine W_seq fun K2 hK2 => ?_; refine W_region ?_; refine xm rfl rfl ?_; refine xp (v_any (.tuple #[.iface 42 (.pointer (some ⟨k, 0, none⟩)), .bool true]) rfl rfl (by intro w; kernel_rfl)) rfl ?_; refine xm rfl rfl ?_; refine xp (v_ex rfl rfl rfl) rfl ?_; refine xp (v_ex rfl rfl rfl) rfl ?_; refine xa rfl rfl ?_; refine xa rfl rfl ?_; refine WO_nil (sq_n (hK2 _ _ ?_)); refine W.keep [0,1,4,5] rfl ?_; refine W_seq fun K3 hK3 => ?_; refine W_region ?_; refine xm rfl rfl ?_; refine WO_nil (sq_n (hK3 _ _ ?_)); refine W_cond_t rfl ?_; refine W_seq fun K4 hK4 => ?_; refine W_region ?_; refine xm rfl rfl ?_; refine xn rfl rfl ?_; refine xp (v_fa (q := 1) rfl underlying146 rfl rfl sizeOf112 rfl) rfl ?_; refine wst rfl rfl rfl sizeOf112 rfl rfl rfl ?_; refine WO_nil (sq_n (hK4 _ _ ?_)); refine W.keep [0,1,4] rfl ?_; refine W_seq fun K5 hK5 => ?_; refine W_region ?_
  refine xm rfl rfl ?_; refine xm rfl rfl ?_; refine xn rfl rfl ?_; refine xp (v_fa (q := 0) rfl underlying146 rfl rfl sizeOf82 rfl) rfl ?_; refine wst rfl rfl rfl sizeOf82 rfl rfl rfl ?_; refine WO_nil (sq_n (hK5 _ _ ?_)); refine W.keep [0,1] rfl ?_; refine W_ret (sq_r (ret_of (v := _) rfl ?_)); exact rfl
theorem dictInit_spec : CallsL Tryz.prog 65 #[.pointer (some ⟨fb, 1037, none⟩), .int .i64 32768, .slice none 0 0] ((fb, fO (fc xr xrBuf xro xb xnb xh1 xh2 xbits xcb (.slice none 0 0) xwr xrd xfull xb0 xb1 xb2 xb3 xstep xsst xfin xerr xtr xhl xhd xcl xcd)) :: D) fun _ H' =>
    ∃ hb, H' = (fb, fO (fc xr xrBuf xro xb xnb xh1 xh2 xbits xcb (winV hb) (.int .i64 0) (.int .i64 0) (.bool false) xb0 xb1 xb2 xb3 xstep xsst xfin xerr xtr xhl xhd xcl xcd)) :: (hb, winO (List.replicate 32768 0)) :: D := by
  refine CallsL_of func65 rfl ntmps65 rfl ?_
  try dsimp only [initE, Nat.zero_add]
  refine W_seq fun K1 hK1 => ?_; refine W_region ?_; refine xm rfl rfl ?_; refine xm rfl rfl ?_; refine xn rfl rfl ?_; refine xp (v_fa (q := 0) rfl underlying142 rfl rfl sizeOf22 rfl) rfl ?_; refine xv (ld rfl rfl isAgg22) rfl ?_; refine xp (v_any (.agg #[.slice none 0 0, .int .i64 0, .int .i64 0, .bool false]) rfl rfl (by intro w; kernel_rfl)) rfl ?_; refine xn rfl rfl ?_; refine wsn (v_sta (vs := [.slice none 0 0, .int .i64 0, .int .i64 0, .bool false]) rfl rfl rfl sizeOf142 rfl (by intro v hv; simp at hv; rcases hv with rfl | rfl | rfl | rfl <;> rfl) put_dict (by rw [fc_length]; decide)) rfl rfl ?_; rintro _ _ ⟨rfl, rfl⟩; refine WO_nil (sq_n (hK1 _ _ ?_)); refine W.keep [0,1,2] rfl ?_; refine W_seq fun K2 hK2 => ?_; refine W_seq fun K3 hK3 => ?_; refine W_region ?_; refine xm rfl rfl ?_; refine xn rfl rfl ?_; refine xp (v_fa (q := 0) rfl underlying142 rfl rfl sizeOf22 rfl) rfl ?_
  refine xv (ld rfl rfl isAgg22) rfl ?_; refine xp (v_cap rfl underlying22 rfl) rfl ?_; refine xm rfl rfl ?_; refine xp (v_lt rfl rfl rfl (dT (by omega))) rfl ?_; refine WO_nil (sq_n (hK3 _ _ ?_)); refine W.keep [0,1,2,19] rfl ?_; refine W_cond_t rfl ?_; refine W_region ?_; refine xm rfl rfl ?_; refine xm rfl rfl ?_; refine ws (v_mk (bytes := 1) rfl underlying22 sizeOf5 typeInfo5 rfl zeroValue5 rfl rfl (by omega) (by omega) rfl rfl) rfl rfl rfl ?_; rintro _ _ ⟨hb, rfl, rfl, _⟩; refine xn rfl rfl ?_; refine xp (v_fa (q := 0) rfl underlying142 rfl rfl sizeOf22 rfl) rfl ?_; refine wst rfl rfl rfl sizeOf22 rfl rfl rfl ?_; refine WO_nil (sq_n (hK2 _ _ ?_)); refine W.keep [0,1,2] rfl ?_; refine W_seq fun K4 hK4 => ?_; refine W.drop (H' := (fb, _) :: (hb, winO (List.replicate 32768 0)) :: D) (.of (by rw [List.append_nil]; simp only [winO, List.map_replicate]; exact .swap _ _ _)) ?_
  refine W_region ?_; refine xm rfl rfl ?_; refine xm rfl rfl ?_; refine xn rfl rfl ?_; refine xp (v_fa (q := 0) rfl underlying142 rfl rfl sizeOf22 rfl) rfl ?_; refine xv (ld rfl rfl isAgg22) rfl ?_; refine xm rfl rfl ?_; refine xp (v_slp rfl underlying22 sizeOf5 rfl .none (.some rfl) .none (by omega) (by omega) (by omega) (by decide)) rfl ?_; refine xn rfl rfl ?_; refine xp (v_fa (q := 0) rfl underlying142 rfl rfl sizeOf22 rfl) rfl ?_; refine wst rfl rfl rfl sizeOf22 rfl rfl rfl ?_; refine WO_nil (sq_n (hK4 _ _ ?_)); refine W.keep [0,2] rfl ?_; refine W_seq fun K5 hK5 => ?_; refine W_seq fun K6 hK6 => ?_; refine W_region ?_; refine xm rfl rfl ?_; refine xp (v_len rfl underlying22 rfl) rfl ?_; refine xm rfl rfl ?_; refine xn rfl rfl ?_; refine xp (v_fa (q := 0) rfl underlying142 rfl rfl sizeOf22 rfl) rfl ?_; refine xv (ld rfl rfl isAgg22) rfl ?_
  refine xp (v_len rfl underlying22 rfl) rfl ?_; refine xp (v_gt rfl rfl rfl (dF (by omega))) rfl ?_; refine WO_nil (sq_n (hK6 _ _ ?_)); refine W.keep [0,2,41] rfl ?_; refine W_cond_f rfl ?_; refine W_skip (sq_n (hK5 _ _ ?_)); refine W_seq fun K7 hK7 => ?_; refine W_region ?_; refine xm rfl rfl ?_; refine xm rfl rfl ?_; refine xn rfl rfl ?_; refine xp (v_fa (q := 0) rfl underlying142 rfl rfl sizeOf22 rfl) rfl ?_; refine xv (ld rfl rfl isAgg22) rfl ?_; refine xm rfl rfl ?_; refine xv (v_cps rfl rfl underlying22 sizeOf5 rfl rfl) rfl ?_; refine xn rfl rfl ?_; refine xp (v_fa (q := 1) rfl underlying142 rfl rfl sizeOf3 rfl) rfl ?_; refine wst rfl rfl rfl sizeOf3 rfl rfl rfl ?_; refine WO_nil (sq_n (hK7 _ _ ?_)); refine W.keep [0] rfl ?_; refine W_seq fun K8 hK8 => ?_; refine W_seq fun K9 hK9 => ?_; refine W_draw mixed ?_; refine WA_k (fuel := 0) [0,1,2,3,4,5,6,7,8,9] rfl (by kernel_rfl) ?_
  refine ym rfl rfl rfl ?_; refine yp rfl (v_nil rfl rfl) rfl ?_; refine yp rfl (v_fa (q := 1) rfl underlying142 rfl rfl sizeOf3 rfl) rfl ?_; refine yv rfl (ld rfl rfl isAgg3) rfl ?_; refine ym rfl rfl rfl ?_; refine yp rfl (v_nil rfl rfl) rfl ?_; refine yp rfl (v_fa (q := 0) rfl underlying142 rfl rfl sizeOf22 rfl) rfl ?_; refine yv rfl (ld rfl rfl isAgg22) rfl ?_; refine yp rfl (v_len rfl underlying22 rfl) rfl ?_; refine yp rfl (v_eq rfl rfl rfl (dF (by omega))) rfl ?_; refine WK_nil ?_; refine WA_nil (by kernel_rfl) (sq_n (hK9 _ _ ?_)); refine W.keep [0,70] rfl ?_; refine W_cond_f rfl ?_; refine W_skip (sq_n (hK8 _ _ ?_)); refine W_region ?_; refine xm rfl rfl ?_; refine xm rfl rfl ?_; refine xn rfl rfl ?_; refine xp (v_fa (q := 1) rfl underlying142 rfl rfl sizeOf3 rfl) rfl ?_; refine xv (ld rfl rfl isAgg3) rfl ?_; refine xn rfl rfl ?_
  refine xp (v_fa (q := 2) rfl underlying142 rfl rfl sizeOf3 rfl) rfl ?_; refine wst rfl rfl rfl sizeOf3 rfl rfl rfl ?_; refine WO_nil (end_of (v := _) rfl ?_); exact ⟨hb, rfl⟩
abbrev intsO (L : List Nat) (t : TypeId) : Obj := .cells (List.toArray (L.map iV)) t (0, 0)
theorem newReader2_spec : CallsL Tryz.prog 56 #[.iface 42 (.pointer (some ⟨k, 0, none⟩))] D fun v H' => ∃ fb hb bb cbk, v = .iface 150 (.pointer (some ⟨fb, 0, none⟩)) ∧
    H' = (fb, fO (fc (.iface 42 (.pointer (some ⟨k, 0, none⟩))) (.pointer none) (.int .i64 0) (wV 0) (uV 0) HD.zero HD.zero (.pointer (some ⟨bb, 0, none⟩)) (.pointer (some ⟨cbk, 0, none⟩)) (winV hb) (iV 0) (iV 0) (.bool false) (bV 0) (bV 0) (bV 0) (bV 0) (fnV 64) (iV 0) (.bool false) .nilIface (.slice none 0 0) (.pointer none) (.pointer none) (iV 0) (iV 0))) :: (hb, winO (List.replicate 32768 0)) :: (bb, intsO (List.replicate 316 0) 148) :: (cbk, intsO (List.replicate 19 0) 149) :: D := by
  refine CallsL_of func56 rfl ntmps56 rfl ?_
  try dsimp only [initE, Nat.zero_add]
  refine W_seq fun K1 hK1 => ?_; refine W_region ?_; refine xa rfl rfl ?_; refine WO_nil (sq_n (hK1 _ _ ?_)); refine W_seq fun K2 hK2 => ?_; refine W_region ?_; refine wf (v_ala rfl zv146) rfl rfl rfl ?_; intro fb _; refine WO_nil (sq_n (hK2 _ _ ?_)); refine W_seq fun K3 hK3 => ?_; refine W_region ?_; refine xm rfl rfl ?_; refine wc (e_c rfl rfl rfl call63) rfl rfl rfl (makeReader_spec (k := k)) .all ?_; rintro _ _ rfl; (try simp only [ap4]); refine WO_nil (sq_n (hK3 _ _ ?_)); refine W.keep [2,3] rfl ?_; refine W_seq fun K4 hK4 => ?_; refine W_region ?_; refine wf (v_ala rfl zv148) rfl rfl rfl ?_; intro bb _; refine xp (v_fa (q := 1035) rfl underlying146 rfl rfl sizeOf139 rfl) rfl ?_; refine wst rfl rfl rfl sizeOf139 rfl rfl rfl ?_; refine WO_nil (sq_n (hK4 _ _ ?_)); refine W_seq fun K5 hK5 => ?_; refine W_region ?_; refine wf (v_ala rfl zv149) rfl rfl rfl ?_; intro cbk _
  refine xp (v_fa (q := 1036) rfl underlying146 rfl rfl sizeOf140 rfl) rfl ?_; refine wst rfl rfl rfl sizeOf140 rfl rfl rfl ?_; refine WO_nil (sq_n (hK5 _ _ ?_)); refine W.keep [2,3] rfl ?_; refine W_seq fun K6 hK6 => ?_; refine W_region ?_; refine xp (v_fa (q := 1045) rfl underlying146 rfl rfl sizeOf143 rfl) rfl ?_; refine wst rfl rfl rfl sizeOf143 rfl rfl rfl ?_; refine WO_nil (sq_n (hK6 _ _ ?_)); refine W_seq fun K7 hK7 => ?_; refine W_region ?_; refine xp (v_fa (q := 1037) rfl underlying146 rfl rfl sizeOf142 rfl) rfl ?_; refine wc (e_c rfl rfl rfl call65) rfl rfl rfl (dictInit_spec) (.skip (.skip .all)) ?_; rintro _ _ ⟨hb, rfl⟩; (try simp only [ap4]); refine WO_nil (sq_n (hK7 _ _ ?_)); refine W.keep [2,3] rfl ?_; refine W_seq fun K8 hK8 => ?_
  refine W.drop (H' := (fb, _) :: (hb, _) :: (bb, _) :: (cbk, _) :: D) (.cons (.there (.there .here)) (.cons (.there (.there .here)) (.cons (.there .here) .all))) ?_; refine W_region ?_; refine xp (v_mi rfl underlying150 rfl rfl) rfl ?_; refine xa rfl rfl ?_; refine WO_nil (sq_n (hK8 _ _ ?_)); refine W_ret (ret_of (v := _) rfl ?_); exact ⟨fb, hb, bb, cbk, rfl, rfl⟩
end
end Go.Proofs.YtpbahgddoamhgaaGreatDoor
