/- Part 1 of 12 of the proof: the executor, the walks and the plain laws, in build order. -/
import Derived.WalkKit
import Derived.Orders
import Derived.KernelRfl
import Derived.StillTail
namespace Go.Proofs.YtpbahgddoamhgaaGreatDoor.Sx
open Go

abbrev El := List (Nat × Value)
abbrev Hl := List (Nat × Obj)

def lk : El → Nat → Option Value
  | [], _ => none
  | (t, v) :: E, s => bif Nat.beq t s then some v else lk E s

structure Ag (n : Nat) (a : Act) (E : El) : Prop where
  sz : a.tmps.size = n
  df : a.defers = []
  get : ∀ t v, lk E t = some v → a.tmps[t]? = some v

structure Hp (O w : World) (H : Hl) : Prop where
  os : w.os = O.os
  out : w.output = O.output
  nd : (H.map Prod.fst).Nodup
  has : ∀ p ∈ H, w.heap[p.1]? = some p.2

def ev (E : El) : Operand → Option Value
  | .tmp t => lk E t
  | .const v => some v
  | .global g => some (.pointer (some ⟨g, 0, none⟩))
  | .func f => some (.func (.func f) #[] #[])

theorem ev_sound {n : Nat} {a : Act} {E : El} {x : Operand} {v : Value} (h : Ag n a E) (hx : ev E x = some v) : a.eval x = v := by
  cases x with
  | tmp t =>
    have := h.get t v hx; simp [Act.eval, this]
  | const u => simpa [ev, Act.eval] using hx
  | global g => simpa [ev, Act.eval] using hx
  | func f => simpa [ev, Act.eval] using hx

def pt (d : Option Nat) (v : Value) (E : El) : El := match d with | some d => (d, v) :: E | none => E

theorem Ag.put {n : Nat} {a : Act} {E : El} (h : Ag n a E) (d : Option Nat) (v : Value) (hd : ∀ k, d = some k → k < n) : Ag n (a.put d v) (pt d v E) := by
  cases d with
  | none => exact h
  | some d =>
    refine ⟨by simp [Act.put, h.sz], h.df, fun t u ht => ?_⟩; have hdn : d < n := hd d rfl; simp only [pt, lk] at ht; simp only [Act.put]
    cases hb : Nat.beq d t with
    | true =>
      have : d = t := Nat.eq_of_beq_eq_true hb; subst this; rw [hb] at ht; simp only [cond_true, Option.some.injEq] at ht; subst ht; simp [h.sz, hdn]
    | false =>
      rw [hb] at ht; have hne : d ≠ t := by intro e; subst e; simp at hb
      rw [Array.getElem?_setIfInBounds_ne hne]; exact h.get t u ht

theorem Ag.sub {n : Nat} {a : Act} {E E' : El} (h : Ag n a E) (hs : ∀ t v, lk E' t = some v → lk E t = some v) : Ag n a E' :=
  ⟨h.sz, h.df, fun t v ht => h.get t v (hs t v ht)⟩

/-- what the environment E' lists, E holds -/
def Sub (E : El) : El → Prop
  | [] => True
  | (t, v) :: E' => lk E t = some v ∧ Sub E E'

theorem Sub.spec {E : El} : ∀ {E' : El}, Sub E E' → ∀ t v, lk E' t = some v → lk E t = some v
  | [], _, t, v, h => by simp [lk] at h
  | (s, u) :: E', hs, t, v, h => by
    simp only [lk] at h
    cases hb : Nat.beq s t with
    | true =>
      rw [hb] at h; have : s = t := Nat.eq_of_beq_eq_true hb; subst this; simp only [cond_true, Option.some.injEq] at h; subst h; exact hs.1
    | false =>
      rw [hb] at h; exact Sub.spec hs.2 t v h

/-! the heap -/
theorem Hp.perm {O w : World} {H H' : Hl} (h : Hp O w H) (p : H.Perm H') : Hp O w H' :=
  ⟨h.os, h.out, (p.map Prod.fst).nodup_iff.1 h.nd, fun x hx => h.has x (p.mem_iff.2 hx)⟩

theorem Hp.drop {O w : World} {H F : Hl} {x : Nat × Obj} (h : Hp O w (x :: H ++ F)) : Hp O w (H ++ F) :=
  ⟨h.os, h.out, (List.nodup_cons.1 (show (x.1 :: (H ++ F).map Prod.fst).Nodup from h.nd)).2, fun p hp => h.has p (List.mem_cons_of_mem _ hp)⟩

class AtH (H : Hl) (b : Nat) (o : outParam Obj) (r : outParam (Obj → Hl)) : Prop where
  look : ∃ A B, H = A ++ (b, o) :: B ∧ r = fun o' => A ++ (b, o') :: B

instance (priority := high) AtH.here {b : Nat} {o : Obj} {H : Hl} : AtH ((b, o) :: H) b o (fun o' => (b, o') :: H) := ⟨[], H, rfl, rfl⟩
instance AtH.there {b : Nat} {o : Obj} {x : Nat × Obj} {H : Hl} {r : Obj → Hl} [h : AtH H b o r] : AtH (x :: H) b o (fun o' => x :: r o') := by
  obtain ⟨A, B, h1, h2⟩ := h.look; exact ⟨x :: A, B, by rw [h1]; rfl, by rw [h2]; rfl⟩

theorem AtH.has {H F : Hl} {b : Nat} {o : Obj} {r : Obj → Hl} {O w : World} (h : AtH H b o r) (hp : Hp O w (H ++ F)) : w.heap[b]? = some o := by
  obtain ⟨A, B, h1, _⟩ := h.look; exact hp.has (b, o) (by rw [h1]; simp)

theorem AtH.set {H F : Hl} {b : Nat} {o o' : Obj} {r : Obj → Hl} {O w w' : World} (h : AtH H b o r) (hp : Hp O w (H ++ F))
    (hos : w'.os = w.os) (hout : w'.output = w.output) (hh : ∀ k, k ≠ b → w'.heap[k]? = w.heap[k]?) (hb : w'.heap[b]? = some o') : Hp O w' (r o' ++ F) := by
  obtain ⟨A, B, h1, h2⟩ := h.look; subst h1 h2; have nd := hp.nd; simp only [List.append_assoc, List.cons_append, List.map_append, List.map_cons] at nd; refine ⟨hos.trans hp.os, hout.trans hp.out, by simpa using nd, fun p hm => ?_⟩; simp only [List.append_assoc, List.cons_append, List.mem_append, List.mem_cons] at hm; have key : p.1 ≠ b → w.heap[p.1]? = some p.2 → w'.heap[p.1]? = some p.2 := fun hne he => by rw [hh _ hne]; exact he
  have nd2 := nd; rw [List.nodup_append] at nd2; obtain ⟨_, n2, n3⟩ := nd2; rw [List.nodup_cons] at n2; rcases hm with hm | rfl | hm
  · refine key (fun e => ?_) (hp.has p (by simp [hm])); exact n3 p.1 (List.mem_map_of_mem hm) b (by simp) e
  · exact hb
  · refine key (fun e => n2.1 ?_) (hp.has p (by simp [hm])); rw [← e]; rw [← List.map_append]; exact List.mem_map_of_mem (List.mem_append.2 hm)

theorem Hp.cons {O w w' : World} {H F : Hl} {o : Obj} (hp : Hp O w (H ++ F)) (hw : w' = w.alloc o) : Hp O w' ((w.heap.size, o) :: H ++ F) := by
  subst hw; have lt : ∀ p ∈ H ++ F, p.1 < w.heap.size := fun p hm => by
    have := hp.has p hm; exact (Array.getElem?_eq_some_iff.1 this).1
  refine ⟨hp.os, hp.out, ?_, fun p hm => ?_⟩
  · simp only [List.cons_append, List.map_cons, List.nodup_cons]; refine ⟨fun hm => ?_, hp.nd⟩; obtain ⟨p, hm, e⟩ := List.mem_map.1 hm; have := lt p hm; omega
  · simp only [List.cons_append, List.mem_cons] at hm; simp only [World.alloc, Array.getElem?_push]; rcases hm with rfl | hm
    · simp
    · have := lt p hm; rw [if_neg (by omega)]; exact hp.has p hm

theorem Hp.fresh {O w : World} {H F : Hl} (hp : Hp O w (H ++ F)) : ∀ p ∈ H, p.1 ≠ w.heap.size := fun p hm e => by
  have := (Array.getElem?_eq_some_iff.1 (hp.has p (by simp [hm]))).1; omega

/-! picking blocks out of a heap, for a callee -/
inductive AtR (b : Nat) (o : Obj) : Hl → Hl → Prop
  | here {H : Hl} : AtR b o ((b, o) :: H) H
  | there {x : Nat × Obj} {H H' : Hl} : AtR b o H H' → AtR b o (x :: H) (x :: H')
inductive HSub : Hl → Hl → Hl → Prop
  | nil {H : Hl} : HSub H [] H
  | all {H : Hl} : HSub H H []
  | cons {b : Nat} {o : Obj} {H H' H1 H2 : Hl} : AtR b o H H' → HSub H' H1 H2 → HSub H ((b, o) :: H1) H2
  | skip {x : Nat × Obj} {H H1 H2 : Hl} : HSub H H1 H2 → HSub (x :: H) H1 (x :: H2)
  | of {H H1 H2 : Hl} : H.Perm (H1 ++ H2) → HSub H H1 H2

theorem AtR.perm {b : Nat} {o : Obj} {H H' : Hl} (h : AtR b o H H') : H.Perm ((b, o) :: H') := by
  induction h with
  | here => exact .refl _
  | there _ ih => exact (ih.cons _).trans (.swap _ _ _)
theorem HSub.perm {H H1 H2 : Hl} (h : HSub H H1 H2) : H.Perm (H1 ++ H2) := by
  induction h with
  | nil => exact .refl _
  | all => rw [List.append_nil]
  | cons ha _ ih => exact ha.perm.trans (ih.cons _)
  | skip _ ih => exact (ih.cons _).trans List.perm_middle.symm
  | of h => exact h
theorem HSub.behind {A B : Hl} : HSub (A ++ B) B A := .of List.perm_append_comm
theorem HSub.front {A B : Hl} : HSub (A ++ B) A B := .of (.refl _)
theorem HSub.app {A B H1 H2 : Hl} (h : HSub B H1 H2) : HSub (A ++ B) H1 (A ++ H2) := .of ((h.perm.append_left A).trans (by rw [← List.append_assoc, ← List.append_assoc]; exact List.perm_append_comm.append_right _))
theorem HSub.pre {A B H1 H2 : Hl} (h : HSub B H1 H2) : HSub (A ++ B) (A ++ H1) H2 := .of (by rw [List.append_assoc]; exact h.perm.append_left A)
theorem AtR.app {b : Nat} {o : Obj} {A H H' : Hl} (h : AtR b o H H') : AtR b o (A ++ H) (A ++ H') := by
  induction A with
  | nil => exact h
  | cons _ _ ih => exact .there ih

/-! contracts and code -/
def CallsL (P : Program) (f : FuncId) (args : Array Value) (H : Hl) (R : Value → Hl → Prop) : Prop :=
  ∀ O F w, Hp O w (H ++ F) → Calls P f args w fun e w' => ∃ v H', e = .returned v ∧ R v H' ∧ Hp O w' (H' ++ F)

theorem CallsL.mono {P : Program} {f : FuncId} {args : Array Value} {H : Hl} {R R' : Value → Hl → Prop} (h : CallsL P f args H R) (hr : ∀ v H', R v H' → R' v H') :
    CallsL P f args H R' :=
  fun O F w hp => (h O F w hp).mono fun _ _ ⟨v, H', he, hR, hp'⟩ => ⟨v, H', he, hr _ _ hR, hp'⟩

theorem CallsL.frame {P : Program} {f : FuncId} {args : Array Value} {H H1 H2 : Hl} {R : Value → Hl → Prop} (h : CallsL P f args H1 R) (hs : HSub H H1 H2) :
    CallsL P f args H fun v H' => ∃ H1', H' = H1' ++ H2 ∧ R v H1' := fun O F w hp =>
  (h O (H2 ++ F) w (by rw [← List.append_assoc]; exact hp.perm (hs.perm.append_right F))).mono fun _ _ ⟨v, H', he, hR, hp'⟩ =>
    ⟨v, H' ++ H2, he, ⟨H', rfl, hR⟩, by rw [List.append_assoc]; exact hp'⟩

def Qf (n : Nat) (O : World) (F : Hl) (Q : Exit → El → Hl → Prop) : Exit → Act → World → Prop := fun e a w =>
  (∀ ch, e ≠ .panic ch) ∧ e ≠ .outgrown ∧ ∃ E H, Ag n a E ∧ Hp O w (H ++ F) ∧ Q e E H

def W (P : Program) (n : Nat) (c : Code) (Q : Exit → El → Hl → Prop) (E : El) (H : Hl) : Prop :=
  ∀ O F a w, Ag n a E → Hp O w (H ++ F) → c.wp P (Qf n O F Q) a w

theorem Qf.mono {n : Nat} {O : World} {F : Hl} {Q Q' : Exit → El → Hl → Prop} {e : Exit} {a : Act} {w : World} (hq : ∀ e E H, Q e E H → Q' e E H) (h : Qf n O F Q e a w) : Qf n O F Q' e a w :=
  ⟨h.1, h.2.1, let ⟨E, H, h1, h2, h3⟩ := h.2.2; ⟨E, H, h1, h2, hq _ _ _ h3⟩⟩

section
variable {P : Program} {n : Nat} {Q : Exit → El → Hl → Prop} {E : El} {H : Hl}

theorem W.mono {Q' : Exit → El → Hl → Prop} {c : Code} (hq : ∀ e E H, Q e E H → Q' e E H) (h : W P n c Q E H) : W P n c Q' E H :=
  fun O F a w ha hp => wp_mono (h O F a w ha hp) fun _ _ _ => Qf.mono hq

/-- fewer slots and blocks -/
theorem W.less {c : Code} {E' : El} {H' H2 : Hl} (he : Sub E E') (hs : HSub H H' H2) (h : W P n c Q E' H') : W P n c Q E H := fun O F a w ha hp =>
  h O F a w (ha.sub he.spec) (by
    have h1 : Hp O w (H' ++ H2 ++ F) := hp.perm (hs.perm.append_right F); have nd := h1.nd; refine ⟨h1.os, h1.out, ?_, fun p hm => h1.has p ?_⟩
    · refine nd.sublist (List.Sublist.map _ ?_); rw [List.append_assoc]; exact (List.Sublist.refl _).append (List.sublist_append_right _ _)
    · simp only [List.mem_append] at hm ⊢; rcases hm with hm | hm
      · exact .inl (.inl hm)
      · exact .inr hm)
theorem Hp.less {O w : World} {F H' H2 : Hl} (hs : HSub H H' H2) (hp : Hp O w (H ++ F)) : Hp O w (H' ++ F) := by
  have h1 : Hp O w (H' ++ H2 ++ F) := hp.perm (hs.perm.append_right F); have nd := h1.nd; refine ⟨h1.os, h1.out, ?_, fun p hm => h1.has p ?_⟩
  · refine nd.sublist (List.Sublist.map _ ?_); rw [List.append_assoc]; exact (List.Sublist.refl _).append (List.sublist_append_right _ _)
  · simp only [List.mem_append] at hm ⊢; rcases hm with hm | hm
    · exact .inl (.inl hm)
    · exact .inr hm
theorem W.drop {c : Code} {H' H2 : Hl} (hs : HSub H H' H2) (h : W P n c Q E H') : W P n c Q E H := fun O F a w ha hp => h O F a w ha (hp.less hs)
theorem W.env {c : Code} {E' : El} (he : Sub E E') (h : W P n c Q E' H) : W P n c Q E H := fun O F a w ha hp => h O F a w (ha.sub he.spec) hp

def sq (K : El → Hl → Prop) (Q : Exit → El → Hl → Prop) : Exit → El → Hl → Prop
  | .normal, E, H => K E H
  | e, E, H => Q e E H
def bl (id : Nat) (Q : Exit → El → Hl → Prop) : Exit → El → Hl → Prop
  | .exit i, E, H => if i = id then Q .normal E H else Q (.exit i) E H
  | e, E, H => Q e E H

theorem W_seq_mid {x y : Code} (M : El → Hl → Prop) (h : W P n x (sq M Q) E H) (hy : ∀ E H, M E H → W P n y Q E H) : W P n (.seq x y) Q E H := fun O F a w ha hp =>
  wp_seq (wp_mono (h O F a w ha hp) fun e a' w' hq => by
    obtain ⟨h1, h2, E', H', ha', hp', hq'⟩ := hq
    cases e with
    | normal => exact hy _ _ hq' O F a' w' ha' hp'
    | panic ch => exact absurd rfl (h1 ch)
    | outgrown => exact absurd rfl h2
    | exit id => exact ⟨h1, h2, E', H', ha', hp', hq'⟩
    | goto l => exact ⟨h1, h2, E', H', ha', hp', hq'⟩
    | ret => exact ⟨h1, h2, E', H', ha', hp', hq'⟩)
theorem W_seq {x y : Code} (h : ∀ K : El → Hl → Prop, (∀ E H, W P n y Q E H → K E H) → W P n x (sq K Q) E H) : W P n (.seq x y) Q E H :=
  W_seq_mid (W P n y Q) (h _ fun _ _ h => h) fun _ _ h => h
theorem W_skip (h : Q .normal E H) : W P n .skip Q E H := fun _ _ a w ha hp => wp_skip ⟨by simp, by simp, E, H, ha, hp, h⟩
theorem W_ret (h : Q .ret E H) : W P n .ret Q E H := fun _ _ a w ha hp => wp_ret ⟨by simp, by simp, E, H, ha, hp, h⟩
theorem W_label {l : Nat} (h : Q .normal E H) : W P n (.label l) Q E H := fun _ _ a w ha hp => wp_label ⟨by simp, by simp, E, H, ha, hp, h⟩
theorem W_goto {l : Nat} (h : Q (.goto l) E H) : W P n (.goto l) Q E H := fun _ _ a w ha hp => wp_goto ⟨by simp, by simp, E, H, ha, hp, h⟩
theorem W_exit {id : Nat} (h : Q (.exit id) E H) : W P n (.exit id) Q E H := fun _ _ a w ha hp => wp_exit ⟨by simp, by simp, E, H, ha, hp, h⟩
theorem W_block {id : Nat} {c : Code} (h : W P n c (bl id Q) E H) : W P n (.block id c) Q E H := fun O F a w ha hp =>
  wp_block (wp_mono (h O F a w ha hp) fun e a' w' hq => by
    obtain ⟨h1, h2, E', H', ha', hp', hq'⟩ := hq
    cases e with
    | exit i =>
      simp only [bl] at hq'; simp only [Exit.inBlock]
      split
      · rename_i hi; rw [if_pos hi] at hq'; exact ⟨by simp, by simp, E', H', ha', hp', hq'⟩
      · rename_i hi; rw [if_neg hi] at hq'; exact ⟨by simp, by simp, E', H', ha', hp', hq'⟩
    | normal => exact ⟨h1, h2, E', H', ha', hp', hq'⟩
    | panic ch => exact ⟨h1, h2, E', H', ha', hp', hq'⟩
    | outgrown => exact ⟨h1, h2, E', H', ha', hp', hq'⟩
    | goto l => exact ⟨h1, h2, E', H', ha', hp', hq'⟩
    | ret => exact ⟨h1, h2, E', H', ha', hp', hq'⟩)
theorem W_cond {c : Operand} {x y : Code} {b : Bool} (hc : ev E c = some (.bool b)) (ht : b = true → W P n x Q E H) (hf : b = false → W P n y Q E H) : W P n (.cond c x y) Q E H :=
  fun O F a w ha hp => wp_cond_split (ev_sound ha hc) (fun h => ht h O F a w ha hp) (fun h => hf h O F a w ha hp)
theorem W_cond_t {c : Operand} {x y : Code} (hc : ev E c = some (.bool true)) (h : W P n x Q E H) : W P n (.cond c x y) Q E H :=
  W_cond hc (fun _ => h) (fun h => by cases h)
theorem W_cond_f {c : Operand} {x y : Code} (hc : ev E c = some (.bool false)) (h : W P n y Q E H) : W P n (.cond c x y) Q E H :=
  W_cond hc (fun h => by cases h) (fun _ => h)

theorem W_loop {c : Code} (Inv : Nat → El → Hl → Prop) {m : Nat} (h0 : Inv m E H)
    (round : ∀ m E H, Inv m E H → W P n c (sq (fun E' H' => ∃ m', m' < m ∧ Inv m' E' H') Q) E H) : W P n (.loop c) Q E H := by
  classical
  intro O F a w ha hp
  let J : Nat → Act → World → Prop := fun m a w => ∃ E H, Ag n a E ∧ Hp O w (H ++ F) ∧ Inv m E H
  have least : ∀ a w, (∃ m, J m a w) → ∃ m, J m a w ∧ ∀ k, J k a w → m ≤ k := fun a w hm => by
    obtain ⟨m, hm⟩ := hm
    induction m using Nat.strongRecOn with
    | _ m ih =>
      by_cases hx : ∃ k, k < m ∧ J k a w
      · obtain ⟨k, hk, hj⟩ := hx; exact ih k hk hj
      · exact ⟨m, hm, fun k hk => by
          rcases Nat.lt_or_ge k m with h | h
          · exact absurd ⟨k, h, hk⟩ hx
          · exact h⟩
  let μ : Act → World → Nat := fun a w => if h : ∃ m, J m a w then (least a w h).choose else 0
  refine wp_loop (fun a w => ∃ m, J m a w) μ ⟨m, E, H, ha, hp, h0⟩ fun a w hm => ?_; have hs := (least a w hm).choose_spec; have hμ : μ a w = (least a w hm).choose := by simp only [μ]; rw [dif_pos hm]
  rw [← hμ] at hs; obtain ⟨⟨E1, H1, ha1, hp1, hi1⟩, _⟩ := hs; refine wp_mono (round _ _ _ hi1 O F a w ha1 hp1) fun e a' w' hq => ?_; obtain ⟨h1, h2, E', H', ha', hp', hq'⟩ := hq
  cases e with
  | normal =>
    obtain ⟨m', hlt, hinv⟩ := hq'; have hj : J m' a' w' := ⟨E', H', ha', hp', hinv⟩; refine ⟨⟨m', hj⟩, ?_⟩; have hs' := (least a' w' ⟨m', hj⟩).choose_spec; have hμ' : μ a' w' = (least a' w' ⟨m', hj⟩).choose := by simp only [μ]; rw [dif_pos ⟨m', hj⟩]
    have := hs'.2 m' hj; show μ a' w' < μ a w; rw [hμ']; omega
  | panic ch => exact absurd rfl (h1 ch)
  | outgrown => exact absurd rfl h2
  | exit id => exact ⟨h1, h2, E', H', ha', hp', hq'⟩
  | goto l => exact ⟨h1, h2, E', H', ha', hp', hq'⟩
  | ret => exact ⟨h1, h2, E', H', ha', hp', hq'⟩

def scq (Q : Exit → El → Hl → Prop) : Exit → El → Hl → Prop
  | .goto _, _, _ => False
  | e, E, H => Q e E H
theorem W_scope {c : Code} (h : W P n c (scq Q) E H) : W P n (.scope c) Q E H := fun O F a w ha hp =>
  wp_scope_straight (wp_mono (h O F a w ha hp) fun e a' w' hq => by
    obtain ⟨h1, h2, E', H', ha', hp', hq'⟩ := hq
    cases e with
    | goto l => exact hq'
    | normal => exact ⟨h1, h2, E', H', ha', hp', hq'⟩
    | panic ch => exact ⟨h1, h2, E', H', ha', hp', hq'⟩
    | outgrown => exact ⟨h1, h2, E', H', ha', hp', hq'⟩
    | exit i => exact ⟨h1, h2, E', H', ha', hp', hq'⟩
    | ret => exact ⟨h1, h2, E', H', ha', hp', hq'⟩)

theorem sq_n {K : El → Hl → Prop} (h : K E H) : sq K Q .normal E H := h
theorem sq_r {K : El → Hl → Prop} (h : Q .ret E H) : sq K Q .ret E H := h
theorem sq_x {K : El → Hl → Prop} {i : Nat} (h : Q (.exit i) E H) : sq K Q (.exit i) E H := h
theorem bl_n {id : Nat} (h : Q .normal E H) : bl id Q .normal E H := h
theorem bl_r {id : Nat} (h : Q .ret E H) : bl id Q .ret E H := h
theorem bl_x {id : Nat} (h : Q .normal E H) : bl id Q (.exit id) E H := by simp only [bl, if_true]; exact h
theorem bl_y {id i : Nat} (hi : Nat.beq i id = false) (h : Q (.exit i) E H) : bl id Q (.exit i) E H := by
  have : i ≠ id := by intro e; subst e; simp at hi
  simp only [bl, if_neg this]; exact h
theorem sc_n (h : Q .normal E H) : scq Q .normal E H := h
theorem sc_r (h : Q .ret E H) : scq Q .ret E H := h
theorem sc_x {i : Nat} (h : Q (.exit i) E H) : scq Q (.exit i) E H := h

/-! operations in the order of the text -/
def WO (P : Program) (n : Nat) (ops : Array Oper) (l : List Oper) (Q : Exit → El → Hl → Prop) (E : El) (H : Hl) : Prop :=
  ∀ O F a w, Ag n a E → Hp O w (H ++ F) → wpList P ops (Qf n O F Q) l a w

theorem W_region {id : Nat} {ops : Array Oper} (h : WO P n ops ops.toList Q E H) : W P n (.region id ops false) Q E H := fun O F a w ha hp =>
  wp_region_list (h O F a w ha hp)

/-- does the guard let the operation run? -/
def gd (ops : Array Oper) (E : El) (o : Oper) : Option Bool :=
  match o.guard with
  | none => some true
  | some (j, b) => match (ops[j]?).bind (·.dst) with
    | some d => match lk E d with
      | some (.bool c) => some (c == b)
      | some (.tuple _) => some false
      | _ => none
    | none => none
theorem gd_sound {ops : Array Oper} {o : Oper} {b : Bool} {a : Act} (ha : Ag n a E) (h : gd ops E o = some b) : Region.wanted o (yielded ops a.tmps) = b := by
  unfold gd at h; unfold Region.wanted
  split at h
  · rename_i hg; simp only [hg]; simpa using h
  · rename_i j c hg; simp only [hg]
    split at h
    · rename_i d hd
      split at h
      · rename_i c' hl; have := ha.get _ _ hl; simp only [yielded, hd, Option.bind_some, this]; simp only [Option.some.injEq] at h; rw [← h]
        cases c' <;> cases c <;> rfl
      · rename_i hl; have := ha.get _ _ hl; simp only [yielded, hd, Option.bind_some, this]; simp only [Option.some.injEq] at h; rw [← h]
        cases c <;> rfl
      · cases h
    · cases h

/-- the operation yields a value and leaves the world as it is -/
def OV (P : Program) (n : Nat) (E : El) (H : Hl) (o : Oper) (v : Value) : Prop :=
  ∀ O F a w, Ag n a E → Hp O w (H ++ F) → (execOp a.eval o).run P w = .ok (.value v) w
/-- .. in whatever world -/
def OP (P : Program) (n : Nat) (E : El) (o : Oper) (v : Value) : Prop :=
  ∀ a w, Ag n a E → (execOp a.eval o).run P w = .ok (.value v) w
theorem OP.ov {o : Oper} {v : Value} (h : OP P n E o v) : OV P n E H o v := fun _ _ a w ha _ => h a w ha
/-- the operation turns the heap -/
def OS (P : Program) (n : Nat) (E : El) (H : Hl) (o : Oper) (R : Value → Hl → Prop) : Prop :=
  ∀ O F a w, Ag n a E → Hp O w (H ++ F) → ∃ v w' H', ((execOp a.eval o).run P w = .ok (.value v) w' ∨ ((execOp a.eval o).run P w = .ok .skip w' ∧ v = undef)) ∧ R v H' ∧ Hp O w' (H' ++ F)

def dl (n : Nat) (d : Option Nat) : Bool := match d with | some d => Nat.blt d n | none => true
theorem dl_spec {d : Option Nat} (h : dl n d = true) : ∀ k, d = some k → k < n := fun k hk => by
  subst hk; exact Nat.le_of_ble_eq_true h

variable {ops : Array Oper} {o : Oper} {l : List Oper}
theorem WO_nil (h : Q .normal E H) : WO P n ops [] Q E H := fun _ _ a w ha hp => wpList_nil ⟨by simp, by simp, E, H, ha, hp, h⟩
theorem WO_v {v : Value} (hv : OV P n E H o v) (hg : gd ops E o = some true) (hd : dl n o.dst = true) (h : WO P n ops l Q (pt o.dst v E) H) : WO P n ops (o :: l) Q E H := fun O F a w ha hp => by
  unfold wpList; rw [if_pos (gd_sound ha hg)]; refine .inl ?_; unfold Oper.wp; rw [hv O F a w ha hp, Oper.upon_value]; exact h O F _ _ (ha.put _ _ (dl_spec hd)) hp
theorem WO_s {R : Value → Hl → Prop} (hv : OS P n E H o R) (hg : gd ops E o = some true) (hd : dl n o.dst = true) (h : ∀ v H', R v H' → WO P n ops l Q (pt o.dst v E) H') : WO P n ops (o :: l) Q E H := fun O F a w ha hp => by
  unfold wpList; rw [if_pos (gd_sound ha hg)]; refine .inl ?_; unfold Oper.wp; obtain ⟨v, w', H', hr, hR, hp'⟩ := hv O F a w ha hp; rcases hr with hr | ⟨hr, rfl⟩
  · rw [hr, Oper.upon_value]; exact h v H' hR O F _ _ (ha.put _ _ (dl_spec hd)) hp'
  · rw [hr, Oper.upon_skip]; exact h _ H' hR O F _ _ (ha.put _ _ (dl_spec hd)) hp'
theorem WO_no (hg : gd ops E o = some false) (hd : dl n o.dst = true) (h : WO P n ops l Q (pt o.dst undef E) H) : WO P n ops (o :: l) Q E H := fun O F a w ha hp => by
  unfold wpList; rw [if_neg (by rw [gd_sound ha hg]; simp)]; exact h O F _ _ (ha.put _ _ (dl_spec hd)) hp
/-- the operation enters a function -/
def OE (P : Program) (n : Nat) (E : El) (H : Hl) (o : Oper) (f : FuncId) (args : Array Value) : Prop :=
  ∀ O F a w, Ag n a E → Hp O w (H ++ F) → (execOp a.eval o).run P w = .ok (.enter f args) w
theorem WO_c {f : FuncId} {args : Array Value} {R : Value → Hl → Prop} {H1 H2 : Hl} (ho : OE P n E H o f args) (hg : gd ops E o = some true) (hd : dl n o.dst = true)
    (hc : CallsL P f args H1 R) (hs : HSub H H1 H2) (h : ∀ v H', R v H' → WO P n ops l Q (pt o.dst v E) (H2 ++ H')) : WO P n ops (o :: l) Q E H := fun O F a w ha hp => by
  unfold wpList; rw [if_pos (gd_sound ha hg)]; refine .inl ?_; unfold Oper.wp; rw [ho O F a w ha hp, Oper.upon_enter]; refine (hc.frame hs O F w hp).mono fun e w' he => ?_; obtain ⟨v, _, rfl, ⟨H1', rfl, hR⟩, hp'⟩ := he; exact h v H1' hR O F _ _ (ha.put _ _ (dl_spec hd)) (hp'.perm (List.perm_append_comm.append_right F))
theorem WO_drop {H' H2 : Hl} (hs : HSub H H' H2) (h : WO P n ops l Q E H') : WO P n ops l Q E H := fun O F a w ha hp => h O F a w ha (hp.less hs)
theorem WO_env {E' : El} (he : Sub E E') (h : WO P n ops l Q E' H) : WO P n ops l Q E H := fun O F a w ha hp => h O F a w (ha.sub he.spec) hp

/-! entering a function -/
def initE : Nat → List Value → El
  | _, [] => []
  | k, v :: vs => (k, v) :: initE (k + 1) vs
theorem initE_get : ∀ (vs : List Value) (k t : Nat) (v : Value), lk (initE k vs) t = some v → k ≤ t ∧ vs[t - k]? = some v
  | [], _, _, _, h => by simp [initE, lk] at h
  | u :: vs, k, t, v, h => by
    simp only [initE, lk] at h
    cases hb : Nat.beq k t with
    | true =>
      rw [hb] at h; have : k = t := Nat.eq_of_beq_eq_true hb; subst this; simpa using h
    | false =>
      rw [hb] at h; obtain ⟨h1, h2⟩ := initE_get vs (k + 1) t v h; refine ⟨by omega, ?_⟩; rw [show t - k = (t - (k + 1)) + 1 by omega]; simpa using h2

def resv (rs : List ResultVar) (E : El) : Option Value :=
  match rs with
  | [] => some (.tuple #[])
  | [.tmp t] => lk E t
  | [.tmp t, .tmp u] => match lk E t, lk E u with
    | some v, some w => some (.tuple #[v, w])
    | _, _ => none
  | [.tmp t, .tmp u, .tmp s] => match lk E t, lk E u, lk E s with
    | some v, some w, some x => some (.tuple #[v, w, x])
    | _, _, _ => none
  | _ => none
theorem resv_sound {fn : Func} {a : Act} {v : Value} {w : World} (ha : Ag n a E) (h : resv fn.results.toList E = some v) : (results fn a.tmps).run P w = .ok v w := by
  unfold resv at h
  split at h
  · rename_i hr; have : fn.results = #[] := by rw [← Array.toList_inj]; simpa using hr
    simp only [Option.some.injEq] at h; subst h; simp [results, this]
  · rename_i t hr; have : fn.results = #[.tmp t] := by rw [← Array.toList_inj]; simpa using hr
    have := ha.get _ _ h; simp [results, *]
  · rename_i t u hr; have hr' : fn.results = #[.tmp t, .tmp u] := by rw [← Array.toList_inj]; simpa using hr
    split at h
    · rename_i v1 v2 h1 h2; have := ha.get _ _ h1; have := ha.get _ _ h2; simp only [Option.some.injEq] at h; subst h; simp [results, *]
    · cases h
  · rename_i t u s hr; have hr' : fn.results = #[.tmp t, .tmp u, .tmp s] := by rw [← Array.toList_inj]; simpa using hr
    split at h
    · rename_i v1 v2 v3 h1 h2 h3; have := ha.get _ _ h1; have := ha.get _ _ h2; have := ha.get _ _ h3; simp only [Option.some.injEq] at h; subst h; simp [results, *]
    · cases h
  · cases h

def bodyQ (rs : List ResultVar) (R : Value → Hl → Prop) : Exit → El → Hl → Prop
  | .normal, E, H | .ret, E, H => ∃ v, resv rs E = some v ∧ R v H
  | _, _, _ => False

theorem CallsL_of {f : FuncId} {fn : Func} {c : Code} {args : List Value} {R : Value → Hl → Prop} (hf : P.funcs[f]? = some fn) (hb : fn.body = some c) (hn : fn.ntmps = n) (hl : Nat.ble args.length n = true)
    (h : W P n c (bodyQ fn.results.toList R) (initE 0 args) H) : CallsL P f args.toArray H R := fun O F w hp => by
  have hl' : args.length ≤ n := Nat.le_of_ble_eq_true hl; refine calls_of_wp hf hb (wp_mono (h O F _ w ?_ hp) fun e a' w' hq => ?_)
  · refine ⟨by simp [hn]; omega, rfl, fun t v ht => ?_⟩; obtain ⟨_, h2⟩ := initE_get args 0 t v ht; simp only [Nat.sub_zero] at h2; have hlt := (List.getElem?_eq_some_iff.1 h2).1; simp only [Array.getElem?_append, List.size_toArray, hlt, if_true]; simpa using h2
  · obtain ⟨h1, h2, E', H', ha', hp', hq'⟩ := hq
    cases e with
    | normal => obtain ⟨v, hv, hR⟩ := hq'; exact ⟨ha'.df, v, resv_sound ha' hv, v, H', rfl, hR, hp'⟩
    | ret => obtain ⟨v, hv, hR⟩ := hq'; exact ⟨ha'.df, v, resv_sound ha' hv, v, H', rfl, hR, hp'⟩
    | panic ch => exact absurd rfl (h1 ch)
    | outgrown => exact absurd rfl h2
    | exit id => exact hq'.elim
    | goto l => exact hq'.elim
end
end Go.Proofs.YtpbahgddoamhgaaGreatDoor.Sx
namespace Go.Proofs.YtpbahgddoamhgaaGreatDoor.Sx
open Go

class CAt (c : List Value) (i : Nat) (v : outParam Value) : Prop where
  h : c[i]? = some v
instance CAt.hd {v : Value} {l : List Value} : CAt (v :: l) 0 v := ⟨rfl⟩
instance CAt.tl {v x : Value} {l : List Value} {i : Nat} [h : CAt l i v] : CAt (x :: l) (i + 1) v := ⟨by simpa using h.h⟩
class CSet (c : List Value) (i : Nat) (v : Value) (c' : outParam (List Value)) : Prop where
  h : c.set i v = c'
  lt : i < c.length
instance CSet.hd {v x : Value} {l : List Value} : CSet (x :: l) 0 v (v :: l) := ⟨rfl, by simp⟩
instance CSet.tl {v x : Value} {l l' : List Value} {i : Nat} [h : CSet l i v l'] : CSet (x :: l) (i + 1) v (x :: l') := ⟨by simp [h.h], by simpa using h.lt⟩

/-- a whole number that is not negative, as a natural number -/
class NO (i : Int) (a : outParam Nat) : Prop where
  h : i = (a : Int)
instance NO.cast {a : Nat} : NO (a : Int) a := ⟨rfl⟩
instance : NO 0 0 := ⟨rfl⟩
instance : NO 1 1 := ⟨rfl⟩
instance : NO 2 2 := ⟨rfl⟩
instance : NO 3 3 := ⟨rfl⟩
instance : NO 4 4 := ⟨rfl⟩
instance : NO 5 5 := ⟨rfl⟩
instance : NO 6 6 := ⟨rfl⟩
instance : NO 7 7 := ⟨rfl⟩
instance : NO 8 8 := ⟨rfl⟩
instance : NO 9 9 := ⟨rfl⟩
instance : NO 10 10 := ⟨rfl⟩
instance : NO 11 11 := ⟨rfl⟩
instance : NO 12 12 := ⟨rfl⟩
instance : NO 13 13 := ⟨rfl⟩
instance : NO 14 14 := ⟨rfl⟩
instance : NO 15 15 := ⟨rfl⟩
instance : NO 16 16 := ⟨rfl⟩
instance : NO 17 17 := ⟨rfl⟩
instance : NO 18 18 := ⟨rfl⟩
instance : NO 19 19 := ⟨rfl⟩
instance : NO 20 20 := ⟨rfl⟩
instance : NO 21 21 := ⟨rfl⟩
instance : NO 22 22 := ⟨rfl⟩
instance : NO 23 23 := ⟨rfl⟩
instance : NO 24 24 := ⟨rfl⟩
instance : NO 25 25 := ⟨rfl⟩
instance : NO 26 26 := ⟨rfl⟩
instance : NO 27 27 := ⟨rfl⟩
instance : NO 28 28 := ⟨rfl⟩
instance : NO 29 29 := ⟨rfl⟩
instance : NO 30 30 := ⟨rfl⟩
instance : NO 31 31 := ⟨rfl⟩
instance : NO 32 32 := ⟨rfl⟩
instance : NO 33 33 := ⟨rfl⟩
instance : NO 34 34 := ⟨rfl⟩
instance : NO 35 35 := ⟨rfl⟩
instance : NO 36 36 := ⟨rfl⟩
instance : NO 37 37 := ⟨rfl⟩
instance : NO 38 38 := ⟨rfl⟩
instance : NO 39 39 := ⟨rfl⟩
instance : NO 64 64 := ⟨rfl⟩
instance : NO 100 100 := ⟨rfl⟩
instance : NO 120 120 := ⟨rfl⟩
instance : NO 138 138 := ⟨rfl⟩
instance : NO 144 144 := ⟨rfl⟩
instance : NO 156 156 := ⟨rfl⟩
instance : NO 200 200 := ⟨rfl⟩
instance : NO 254 254 := ⟨rfl⟩
instance : NO 255 255 := ⟨rfl⟩
instance : NO 256 256 := ⟨rfl⟩
instance : NO 257 257 := ⟨rfl⟩
instance : NO 258 258 := ⟨rfl⟩
instance : NO 265 265 := ⟨rfl⟩
instance : NO 269 269 := ⟨rfl⟩
instance : NO 273 273 := ⟨rfl⟩
instance : NO 277 277 := ⟨rfl⟩
instance : NO 280 280 := ⟨rfl⟩
instance : NO 281 281 := ⟨rfl⟩
instance : NO 284 284 := ⟨rfl⟩
instance : NO 285 285 := ⟨rfl⟩
instance : NO 286 286 := ⟨rfl⟩
instance : NO 288 288 := ⟨rfl⟩
instance : NO 511 511 := ⟨rfl⟩
instance : NO 512 512 := ⟨rfl⟩
instance : NO 519 519 := ⟨rfl⟩
instance : NO 1057 1057 := ⟨rfl⟩
instance : NO 2149 2149 := ⟨rfl⟩
instance : NO 4096 4096 := ⟨rfl⟩
instance : NO 4365 4365 := ⟨rfl⟩
instance : NO 5552 5552 := ⟨rfl⟩
instance : NO 8861 8861 := ⟨rfl⟩
instance : NO 20000 20000 := ⟨rfl⟩
instance : NO 32768 32768 := ⟨rfl⟩
instance : NO 65521 65521 := ⟨rfl⟩
instance : NO 65535 65535 := ⟨rfl⟩
instance : NO 2147483647 2147483647 := ⟨rfl⟩

/-- a place behind a place -/
class OA (p j z : Nat) (r : outParam Nat) : Prop where
  h : p + j * z = r
instance OA.gen {p j z : Nat} : OA p j z (p + j * z) := ⟨rfl⟩
instance (priority := 1100) OA.at0 {j z : Nat} : OA 0 j z (j * z) := ⟨Nat.zero_add _⟩
instance (priority := 1200) OA.by1 {p j : Nat} : OA p j 1 (p + j) := ⟨by rw [Nat.mul_one]⟩
instance (priority := 1300) OA.at0by1 {j : Nat} : OA 0 j 1 j := ⟨by rw [Nat.mul_one, Nat.zero_add]⟩
class FA (p k : Nat) (r : outParam Nat) : Prop where
  h : p + k = r
instance FA.gen {p k : Nat} : FA p k (p + k) := ⟨rfl⟩
instance (priority := 1100) FA.add0 {p : Nat} : FA p 0 p := ⟨rfl⟩
instance (priority := 1200) FA.at0 {k : Nat} : FA 0 k k := ⟨Nat.zero_add _⟩

def one : Value → Bool
  | .agg _ => false
  | .tuple _ => false
  | _ => true

theorem add_addr (b o k : Nat) : Addr.add ⟨b, o, none⟩ k = ⟨b, o + k, none⟩ := by
  unfold Addr.add
  split
  · rename_i h; subst h; rfl
  · rfl

section
variable {P : Program} {n : Nat} {E : El} {H : Hl} {o : Oper}

theorem v_mv {x : Operand} {v : Value} (ho : o.op = .move x) (hx : ev E x = some v) : OP P n E o v := fun a w ha => by
  simp [execOp, ho, ev_sound ha hx]
theorem v_as {x : Operand} {v : Value} (ho : o.op = .assign x) (hx : ev E x = some v) : OP P n E o v := fun a w ha => by
  simp [execOp, ho, ev_sound ha hx]
theorem v_pt {c x y : Operand} {v : Value} (ho : o.op = .pick c x y) (hc : ev E c = some (.bool true)) (hx : ev E x = some v) : OP P n E o v := fun a w ha => by
  simp [execOp, ho, ev_sound ha hc, ev_sound ha hx, asBool]
theorem v_pf {c x y : Operand} {v : Value} (ho : o.op = .pick c x y) (hc : ev E c = some (.bool false)) (hy : ev E y = some v) : OP P n E o v := fun a w ha => by
  simp [execOp, ho, ev_sound ha hc, ev_sound ha hy, asBool]
theorem v_nil {x : Operand} {p : Addr} (ho : o.op = .nilCheck x) (hx : ev E x = some (.pointer (some p))) : OP P n E o (.pointer (some p)) := fun a w ha => by
  simp [execOp, ho, ev_sound ha hx]
theorem v_nili {x : Operand} {t : TypeId} {v : Value} (ho : o.op = .nilCheck x) (hx : ev E x = some (.iface t v)) : OP P n E o (.iface t v) := fun a w ha => by
  simp [execOp, ho, ev_sound ha hx]
theorem v_ex {x : Operand} {k : Nat} {vs : List Value} {v : Value} (ho : o.op = .extract x k) (hx : ev E x = some (.tuple vs.toArray)) (hv : vs[k]? = some v) : OP P n E o v := fun a w ha => by
  simp [execOp, ho, ev_sound ha hx, Instr.extract, hv]

/-! whole numbers -/
theorem v_add {t t' : TypeId} {x y : Operand} {k : IntKind} {a b r : Int} (ho : o.op = .binOp .add t x y t') (hx : ev E x = some (.int k a)) (hy : ev E y = some (.int k b)) (hr : k.wrap (a + b) = r) : OP P n E o (.int k r) := fun s w ha => by
  simp [execOp, ho, ev_sound ha hx, ev_sound ha hy, eqGuard, binOp, Op.intArith, hr]
theorem v_sub {t t' : TypeId} {x y : Operand} {k : IntKind} {a b r : Int} (ho : o.op = .binOp .sub t x y t') (hx : ev E x = some (.int k a)) (hy : ev E y = some (.int k b)) (hr : k.wrap (a - b) = r) : OP P n E o (.int k r) := fun s w ha => by
  simp [execOp, ho, ev_sound ha hx, ev_sound ha hy, eqGuard, binOp, Op.intArith, hr]
theorem v_mul {t t' : TypeId} {x y : Operand} {k : IntKind} {a b r : Int} (ho : o.op = .binOp .mul t x y t') (hx : ev E x = some (.int k a)) (hy : ev E y = some (.int k b)) (hr : k.wrap (a * b) = r) : OP P n E o (.int k r) := fun s w ha => by
  simp [execOp, ho, ev_sound ha hx, ev_sound ha hy, eqGuard, binOp, Op.intArith, hr]
theorem v_quo {t t' : TypeId} {x y : Operand} {k : IntKind} {a b r : Int} (ho : o.op = .binOp .quo t x y t') (hx : ev E x = some (.int k a)) (hy : ev E y = some (.int k b)) (hb : b ≠ 0) (hr : k.wrap (a.tdiv b) = r) : OP P n E o (.int k r) := fun s w ha => by
  simp [execOp, ho, ev_sound ha hx, ev_sound ha hy, eqGuard, binOp, Op.intDiv, hr, hb]
theorem v_rem {t t' : TypeId} {x y : Operand} {k : IntKind} {a b r : Int} (ho : o.op = .binOp .rem t x y t') (hx : ev E x = some (.int k a)) (hy : ev E y = some (.int k b)) (hb : b ≠ 0) (hr : a.tmod b = r) : OP P n E o (.int k r) := fun s w ha => by
  simp [execOp, ho, ev_sound ha hx, ev_sound ha hy, eqGuard, binOp, Op.intDiv, hr, hb]
theorem v_and {t t' : TypeId} {x y : Operand} {k : IntKind} {a b r : Int} (ho : o.op = .binOp .and t x y t') (hx : ev E x = some (.int k a)) (hy : ev E y = some (.int k b)) (hr : k.wrap (BitVec.ofInt k.bits a &&& BitVec.ofInt k.bits b).toNat = r) : OP P n E o (.int k r) := fun s w ha => by
  simp only [execOp, ho, ev_sound ha hx, ev_sound ha hy, eqGuard, binOp, Op.intBits, hr]; simp
theorem v_or {t t' : TypeId} {x y : Operand} {k : IntKind} {a b r : Int} (ho : o.op = .binOp .or t x y t') (hx : ev E x = some (.int k a)) (hy : ev E y = some (.int k b)) (hr : k.wrap (BitVec.ofInt k.bits a ||| BitVec.ofInt k.bits b).toNat = r) : OP P n E o (.int k r) := fun s w ha => by
  simp only [execOp, ho, ev_sound ha hx, ev_sound ha hy, eqGuard, binOp, Op.intBits, hr]; simp
theorem v_xor {t t' : TypeId} {x y : Operand} {k : IntKind} {a b r : Int} (ho : o.op = .binOp .xor t x y t') (hx : ev E x = some (.int k a)) (hy : ev E y = some (.int k b)) (hr : k.wrap (BitVec.ofInt k.bits a ^^^ BitVec.ofInt k.bits b).toNat = r) : OP P n E o (.int k r) := fun s w ha => by
  simp only [execOp, ho, ev_sound ha hx, ev_sound ha hy, eqGuard, binOp, Op.intBits, hr]; simp
theorem v_shl {t t' : TypeId} {x y : Operand} {k k' : IntKind} {a b r : Int} (ho : o.op = .binOp .shl t x y t') (hx : ev E x = some (.int k a)) (hy : ev E y = some (.int k' b)) (hb : 0 ≤ b) (hr : k.wrap (a * 2 ^ min b.toNat k.bits) = r) : OP P n E o (.int k r) := fun s w ha => by
  have : ¬ b < 0 := by omega
  simp [execOp, ho, ev_sound ha hx, ev_sound ha hy, eqGuard, binOp, Op.shift, hr, this]
theorem v_shr {t t' : TypeId} {x y : Operand} {k k' : IntKind} {a b r : Int} (ho : o.op = .binOp .shr t x y t') (hx : ev E x = some (.int k a)) (hy : ev E y = some (.int k' b)) (hb : 0 ≤ b) (hr : a.fdiv (2 ^ min b.toNat k.bits) = r) : OP P n E o (.int k r) := fun s w ha => by
  have : ¬ b < 0 := by omega
  simp [execOp, ho, ev_sound ha hx, ev_sound ha hy, eqGuard, binOp, Op.shift, hr, this]
theorem v_lt {t t' : TypeId} {x y : Operand} {k : IntKind} {a b : Int} {r : Bool} (ho : o.op = .binOp .lss t x y t') (hx : ev E x = some (.int k a)) (hy : ev E y = some (.int k b)) (hr : decide (a < b) = r) : OP P n E o (.bool r) := fun s w ha => by
  simp [execOp, ho, ev_sound ha hx, ev_sound ha hy, eqGuard, binOp, Op.intCmp, hr]
theorem v_le {t t' : TypeId} {x y : Operand} {k : IntKind} {a b : Int} {r : Bool} (ho : o.op = .binOp .leq t x y t') (hx : ev E x = some (.int k a)) (hy : ev E y = some (.int k b)) (hr : decide (a ≤ b) = r) : OP P n E o (.bool r) := fun s w ha => by
  simp [execOp, ho, ev_sound ha hx, ev_sound ha hy, eqGuard, binOp, Op.intCmp, hr]
theorem v_gt {t t' : TypeId} {x y : Operand} {k : IntKind} {a b : Int} {r : Bool} (ho : o.op = .binOp .gtr t x y t') (hx : ev E x = some (.int k a)) (hy : ev E y = some (.int k b)) (hr : decide (b < a) = r) : OP P n E o (.bool r) := fun s w ha => by
  simp [execOp, ho, ev_sound ha hx, ev_sound ha hy, eqGuard, binOp, Op.intCmp, hr]
theorem v_ge {t t' : TypeId} {x y : Operand} {k : IntKind} {a b : Int} {r : Bool} (ho : o.op = .binOp .geq t x y t') (hx : ev E x = some (.int k a)) (hy : ev E y = some (.int k b)) (hr : decide (b ≤ a) = r) : OP P n E o (.bool r) := fun s w ha => by
  simp [execOp, ho, ev_sound ha hx, ev_sound ha hy, eqGuard, binOp, Op.intCmp, hr]
theorem v_eq {t t' : TypeId} {x y : Operand} {k : IntKind} {a b : Int} {r : Bool} (ho : o.op = .binOp .eql t x y t') (hx : ev E x = some (.int k a)) (hy : ev E y = some (.int k b)) (hr : decide (a = b) = r) : OP P n E o (.bool r) := fun s w ha => by
  have : (a == b) = r := by rw [← hr]; rfl
  simp [execOp, ho, ev_sound ha hx, ev_sound ha hy, eqGuard, binOp, Op.intCmp, this]
theorem v_ne {t t' : TypeId} {x y : Operand} {k : IntKind} {a b : Int} {r : Bool} (ho : o.op = .binOp .neq t x y t') (hx : ev E x = some (.int k a)) (hy : ev E y = some (.int k b)) (hr : decide (a ≠ b) = r) : OP P n E o (.bool r) := fun s w ha => by
  have : (a != b) = r := by rw [← hr, decide_not]; rfl
  simp [execOp, ho, ev_sound ha hx, ev_sound ha hy, eqGuard, binOp, Op.intCmp, this]
theorem v_not {t : TypeId} {x : Operand} {a r : Bool} (ho : o.op = .unOp .not t x) (hx : ev E x = some (.bool a)) (hr : (!a) = r) : OP P n E o (.bool r) := fun s w ha => by
  simp [execOp, ho, ev_sound ha hx, Op.unary, hr]
theorem v_inv {t : TypeId} {x : Operand} {a r : Int} (ho : o.op = .unOp .xor t x) (hx : ev E x = some (.int .i64 a)) (hr : IntKind.i64.wrap (BitVec.ofInt IntKind.i64.bits (-1) ^^^ BitVec.ofInt IntKind.i64.bits a).toNat = r) : OP P n E o (.int .i64 r) := fun s w ha => by
  simp only [execOp, ho, ev_sound ha hx, Op.unary, Op.intBits, IntKind.signed, if_true, hr]; rfl
theorem v_cv {s t : TypeId} {d : TypeDesc} {x : Operand} {k k' : IntKind} {a r : Int} (ho : o.op = .convert s t x) (hs : P.underlying s = some d) (ht : P.underlying t = some (.int k)) (hx : ev E x = some (.int k' a)) (hr : k.wrap a = r) : OP P n E o (.int k r) := fun st w ha => by
  simp [execOp, ho, ev_sound ha hx, convert, underlying, hs, ht, Conv.intToInt, hr]

/-! addresses -/
theorem v_fa {s : TypeId} {x : Operand} {f b p p' z : Nat} {fs : Array Field} {fd : Field} (ho : o.op = .fieldAddr s x f) (hu : P.underlying s = some (.struct fs)) (hx : ev E x = some (.pointer (some ⟨b, p, none⟩)))
    (hf : fs[f]? = some fd) (hz : ∀ w, (sizeOf fd.type).run P w = .ok (z + 1) w) {q : Nat} (hq : fd.offset = q) [hp : FA p q p'] : OP P n E o (.pointer (some ⟨b, p', none⟩)) := fun a w ha => by
  simp [execOp, ho, ev_sound ha hx, Instr.fieldAt, underlying, hu, hf, Instr.sureAddr, fieldPlace, hz, add_addr, hq, hp.h]
theorem v_ixs {t e : TypeId} {x y : Operand} {b p p' z j len cap : Nat} {k : IntKind} {i : Int} (ho : o.op = .indexAddr t x y) (hu : P.underlying t = some (.slice e)) (hz : ∀ w, (sizeOf e).run P w = .ok z w)
    (hx : ev E x = some (.slice (some ⟨b, p, none⟩) len cap)) (hy : ev E y = some (.int k i)) [hi : NO i j] (hj : j < len) [hp : OA p j z p'] : OP P n E o (.pointer (some ⟨b, p', none⟩)) := fun a w ha => by
  obtain rfl := hi.h; have h1 : (0 : Int) ≤ (j : Int) ∧ (j : Int) < (len : Int) := by omega
  have h2 : ((j : Int) < (len : Int)) := h1.2; simp [execOp, ho, ev_sound ha hx, ev_sound ha hy, Instr.indexAt, underlying, hu, asIntOf, hz, add_addr, hp.h, hj]
theorem v_ixa {t e : TypeId} {x y : Operand} {b p p' z j len : Nat} {k : IntKind} {i : Int} (ho : o.op = .indexAddr t x y) (hu : P.underlying t = some (.array len e)) (hz : ∀ w, (sizeOf e).run P w = .ok z w)
    (hx : ev E x = some (.pointer (some ⟨b, p, none⟩))) (hy : ev E y = some (.int k i)) [hi : NO i j] (hj : j < len) [hp : OA p j z p'] : OP P n E o (.pointer (some ⟨b, p', none⟩)) := fun a w ha => by
  obtain rfl := hi.h; simp [execOp, ho, ev_sound ha hx, ev_sound ha hy, Instr.indexAt, underlying, hu, asIntOf, hz, add_addr, hp.h, hj, Instr.sureAddr]
theorem v_ixstr {t : TypeId} {x y : Operand} {s : ByteArray} {j : Nat} {k : IntKind} {i : Int} {c : UInt8} (ho : o.op = .index t x y) (hu : P.underlying t = some .string) (hx : ev E x = some (.string s)) (hy : ev E y = some (.int k i)) [hi : NO i j] (hj : s[j]? = some c) : OP P n E o (.int .u8 (c.toNat : Nat)) := fun a w ha => by
  obtain rfl := hi.h; simp [execOp, ho, ev_sound ha hx, ev_sound ha hy, Instr.index, underlying, hu, asIntOf, hj]
theorem v_mf {fn : Fn} {x : Operand} {v : Value} (ho : o.op = .makeFunc fn #[x] #[]) (hx : ev E x = some v) : OP P n E o (.func fn #[v] #[]) := fun a w ha => by
  simp [execOp, ho, ev_sound ha hx, Instr.makeFunc]
def plainT : TypeDesc → Bool
  | .interface _ => false
  | _ => true
theorem v_mi {t : TypeId} {x : Operand} {v : Value} {d : TypeDesc} (ho : o.op = .makeInterface t x) (hu : P.underlying t = some d) (hd : plainT d = true) (hx : ev E x = some v) : OP P n E o (.iface t v) := fun a w ha => by
  cases d <;> first | (simp [plainT] at hd; done) | simp [execOp, ho, ev_sound ha hx, Instr.makeInterface, underlying, hu]

/-! lengths -/
theorem v_len {t e : TypeId} {x : Operand} {len cap : Nat} {p : Option Addr} (ho : o.op = .call ⟨.builtin .len, #[x], #[t]⟩) (hu : P.underlying t = some (.slice e)) (hx : ev E x = some (.slice p len cap)) : OP P n E o (.int .i64 (len : Nat)) := fun a w ha => by
  simp [execOp, ho, ev_sound ha hx, resolve, invoke, builtin, Builtin.len_, goInt, underlying, hu]
theorem v_cap {t e : TypeId} {x : Operand} {len cap : Nat} {p : Option Addr} (ho : o.op = .call ⟨.builtin .cap, #[x], #[t]⟩) (hu : P.underlying t = some (.slice e)) (hx : ev E x = some (.slice p len cap)) : OP P n E o (.int .i64 (cap : Nat)) := fun a w ha => by
  simp [execOp, ho, ev_sound ha hx, resolve, invoke, builtin, Builtin.cap_, goInt, underlying, hu]
theorem v_min {ts : Array TypeId} {x y : Operand} {k k' : IntKind} {a b r : Int} (ho : o.op = .call ⟨.builtin .min, #[x, y], ts⟩) (hx : ev E x = some (.int k a)) (hy : ev E y = some (.int k' b)) (hr : min a b = r) : OP P n E o (.int k r) := fun st w ha => by
  have : (if b < a then b else a) = r := by rw [← hr]; omega
  simp [execOp, ho, ev_sound ha hx, ev_sound ha hy, resolve, invoke, builtin, Builtin.min_, Builtin.min2, this]

/-! anything that the kernel reckons -/
def evd (E : El) (x : Operand) : Value := (ev E x).getD undef
theorem evd_eq {a : Act} (ha : Ag n a E) (hall : o.op.operands.toList.all (fun x => (ev E x).isSome) = true) (hs : ∀ cs b, o.op ≠ .select cs b) : execOp a.eval o = execOp (evd E) o := by
  refine execOp_congr o hs fun x hx => ?_; have := List.all_eq_true.1 hall x (by simpa using hx); obtain ⟨v, hv⟩ := Option.isSome_iff_exists.1 this; rw [ev_sound ha hv, evd, hv]; rfl
def noSel : Op → Bool
  | .select .. => false
  | _ => true
theorem noSel_spec {p : Op} (h : noSel p = true) : ∀ cs b, p ≠ .select cs b := fun cs b e => by subst e; simp [noSel] at h
theorem v_any (v : Value) (hall : o.op.operands.toList.all (fun x => (ev E x).isSome) = true) (hs : noSel o.op = true) (hf : ∀ w, (execOp (evd E) o).run P w = .ok (.value v) w) : OP P n E o v := fun a w ha => by
  rw [evd_eq ha hall (noSel_spec hs)]; exact hf w

/-! memory -/
theorem cell_of {O w : World} {F : Hl} {b p : Nat} {c : List Value} {ty : TypeId} {fz : Nat × Nat} {r : Obj → Hl} {v : Value} (hp : Hp O w (H ++ F)) (ha : AtH H b (.cells c.toArray ty fz) r) (hc : c[p]? = some v) : w.cell? ⟨b, p, none⟩ = some v := by
  simp [World.cell?, ha.has hp, hc]
theorem v_ld {t ty : TypeId} {x : Operand} {b p : Nat} {c : List Value} {fz : Nat × Nat} {r : Obj → Hl} {v : Value} (ho : o.op = .load t x) (hx : ev E x = some (.pointer (some ⟨b, p, none⟩))) (ht : ∀ w, (isAgg t).run P w = .ok false w)
    [ha : AtH H b (.cells c.toArray ty fz) r] (hc : c[p]? = some v) : OV P n E H o v := fun O F a w hag hp => by
  simp [execOp, ho, ev_sound hag hx, Instr.loadAt, Instr.sureAddr, loadVar, ht, load, Sem.run, cell_of hp ha hc]

theorem run_loadCellsFrom {w : World} {b p : Nat} (vs : List Value) : ∀ (i : Nat) (acc : Array Value), (∀ j, j < vs.length → w.cell? ⟨b, p + i + j, none⟩ = vs[j]?) →
    (loadCellsFrom ⟨b, p, none⟩ i vs.length acc).run P w = .ok (acc ++ vs.toArray) w := by
  induction vs with
  | nil => intro i acc _; simp [loadCellsFrom]
  | cons v vs ih =>
    intro i acc h; have h0 := h 0 (by simp); simp only [Nat.add_zero, List.getElem?_cons_zero] at h0; simp only [loadCellsFrom, List.length_cons, Sem.run_bind, load, Sem.run, add_addr, h0, Result.andThen_ok]; rw [ih (i + 1) (acc.push v) (fun j hj => by
      have := h (j + 1) (by simpa using hj); simpa [Nat.add_assoc, Nat.add_comm 1 j] using this)]
    simp
theorem v_lda {t ty : TypeId} {x : Operand} {b p z : Nat} {c vs : List Value} {fz : Nat × Nat} {r : Obj → Hl} (ho : o.op = .load t x) (hx : ev E x = some (.pointer (some ⟨b, p, none⟩))) (ht : ∀ w, (isAgg t).run P w = .ok true w)
    (hz : ∀ w, (sizeOf t).run P w = .ok z w) [ha : AtH H b (.cells c.toArray ty fz) r] (hl : vs.length = z) (hc : ∀ j, j < z → c[p + j]? = vs[j]?) : OV P n E H o (.agg vs.toArray) := fun O F a w hag hp => by
  have : (loadCells ⟨b, p, none⟩ z).run P w = .ok vs.toArray w := by
    unfold loadCells; rw [← hl, run_loadCellsFrom vs 0 #[] (fun j hj => by
      have h1 := hc j (by omega); have hlt : j < vs.length := hj; rw [Nat.add_zero, cell_of (v := vs[j]) hp ha (by rw [h1]; simp [hlt])]; simp [hlt])]
    simp
  simp [execOp, ho, ev_sound hag hx, Instr.loadAt, Instr.sureAddr, loadVar, ht, hz, this]

theorem v_st {t ty : TypeId} {x y : Operand} {b p : Nat} {c c' : List Value} {r : Obj → Hl} {v : Value} (ho : o.op = .store t x y) (hx : ev E x = some (.pointer (some ⟨b, p, none⟩))) (hy : ev E y = some v) (hz : ∀ w, (sizeOf t).run P w = .ok 1 w) (hv : one v = true)
    [ha : AtH H b (.cells c.toArray ty (0, 0)) r] (hc : c.set p v = c') (hl : p < c.length) : OS P n E H o (fun u H' => u = undef ∧ H' = r (.cells c'.toArray ty (0, 0))) := fun O F a w hag hp => by
  have hb := ha.has hp; have hcell : w.cell? ⟨b, p, none⟩ = some c[p] := by simp [World.cell?, hb, hl]
  have hfz : w.frozen? ⟨b, p, none⟩ = false := by simp [World.frozen?, hb]
  refine ⟨undef, w.setCell ⟨b, p, none⟩ v, _, .inr ⟨?_, rfl⟩, ⟨rfl, rfl⟩, ?_⟩
  · have hcs : v.cells = #[v] := by cases v <;> first | rfl | simp [one] at hv
    have hrun : (store ⟨b, p, none⟩ v).run P w = .ok () (w.setCell ⟨b, p, none⟩ v) := by
      cases v <;> first | (simp [one] at hv; done) | simp [store, Sem.run, hcell, hfz]
    simp [execOp, ho, ev_sound hag hx, ev_sound hag hy, Instr.storeAt, Instr.sureAddr, storeVar, hz, hcs, storeCells, add_addr, hrun]
  · refine ha.set hp rfl rfl (fun k hk => ?_) ?_
    · simp only [World.setCell, Array.getElem?_modify]; rw [if_neg (fun e => hk e.symm)]
    · simp only [World.setCell, Array.getElem?_modify, if_true, hb, Option.map_some]; simp [← hc]

/-- a new block of cells -/
def Fresh (H : Hl) (o : Obj) (v : Value) (H' : Hl) : Prop := ∃ b, v = .pointer (some ⟨b, 0, none⟩) ∧ H' = (b, o) :: H ∧ ∀ p ∈ H, p.1 ≠ b
theorem fresh_of {O w : World} {F : Hl} {c : Array Value} {ty : TypeId} (hp : Hp O w (H ++ F)) : Hp O (w.alloc (.cells c ty)) ((w.heap.size, .cells c ty) :: H ++ F) := hp.cons rfl
theorem v_al {t : TypeId} {z : Value} (ho : o.op = .alloc t) (hz : ∀ w, (zeroValue t).run P w = .ok z w) : OS P n E H o (Fresh H (.cells z.cells t)) := fun O F a w hag hp => by
  refine ⟨_, w.alloc (.cells z.cells t), _, .inl ?_, ⟨w.heap.size, rfl, rfl, hp.fresh⟩, hp.cons rfl⟩; simp [execOp, ho, Instr.alloc, hz, newVar, newRow]
theorem v_bx {t : TypeId} {x : Operand} {v : Value} (ho : o.op = .box t x) (hx : ev E x = some v) : OS P n E H o (Fresh H (.cells v.cells t)) := fun O F a w hag hp => by
  refine ⟨_, w.alloc (.cells v.cells t), _, .inl ?_, ⟨w.heap.size, rfl, rfl, hp.fresh⟩, hp.cons rfl⟩; simp [execOp, ho, ev_sound hag hx, Instr.box, newVar, newRow]

/-! calls -/
def evs (E : El) : List Operand → Option (List Value)
  | [] => some []
  | x :: xs => match ev E x, evs E xs with
    | some v, some vs => some (v :: vs)
    | _, _ => none
theorem evs_sound {a : Act} (ha : Ag n a E) : ∀ {xs : List Operand} {vs : List Value}, evs E xs = some vs → xs.map a.eval = vs
  | [], vs, h => by simpa [evs] using h
  | x :: xs, vs, h => by
    simp only [evs] at h
    split at h
    · rename_i v vs' h1 h2; simp only [Option.some.injEq] at h; subst h; simp [ev_sound ha h1, evs_sound ha h2]
    · cases h
theorem e_c {f : FuncId} {x : Operand} {xs : List Operand} {ts : Array TypeId} {vs : List Value} (ho : o.op = .call ⟨.value x, xs.toArray, ts⟩) (hx : ev E x = some (.func (.func f) #[] #[])) (hxs : evs E xs = some vs)
    (hf : ∀ args w, (callFunc f args).run P w = .ok (.enter f args) w) : OE P n E H o f vs.toArray := fun O F a w hag hp => by
  have := evs_sound hag hxs; simp [execOp, ho, ev_sound hag hx, resolve, Deferred.ofValue, invoke, this, hf]
theorem e_i {f : FuncId} {x : Operand} {nm : String} {xs : List Operand} {ts : Array TypeId} {vs : List Value} {t : TypeId} {v u : Value} (ho : o.op = .call ⟨.invoke x nm, xs.toArray, ts⟩) (hx : ev E x = some (.iface t v)) (hxs : evs E xs = some vs)
    (hm : ∀ w, (method (P.types.size + Made.depth) t v nm).run P w = .ok (f, u) w) (hf : ∀ args w, (callFunc f args).run P w = .ok (.enter f args) w) : OE P n E H o f (u :: vs).toArray := fun O F a w hag hp => by
  have := evs_sound hag hxs; simp [execOp, ho, ev_sound hag hx, resolve, invoke, callMethod, this, hf, hm]
end
end Go.Proofs.YtpbahgddoamhgaaGreatDoor.Sx
namespace Go.Proofs.YtpbahgddoamhgaaGreatDoor.Sx
open Go

section
variable {P : Program} {n : Nat} {E : El} {H : Hl} {Q : Exit → El → Hl → Prop} {ops : Array Oper} {listed : Array Bool} {fuel : Nat}

def WA (P : Program) (n : Nat) (ops : Array Oper) (fuel : Nat) (listed : Array Bool) (Q : Exit → El → Hl → Prop) (E : El) (H : Hl) : Prop :=
  ∀ O F a w, Ag n a E → Hp O w (H ++ F) → wpAny P .any ops (Qf n O F Q) fuel listed a w

theorem W_draw {id : Nat} (hm : P.follows .mixedOrders = true) (h : WA P n ops ops.size (Array.replicate ops.size false) Q E H) : W P n (.region id ops true) Q E H := fun O F a _w ha hp =>
  wp_region_any hm (h O F a _ ha ⟨hp.os, hp.out, hp.nd, hp.has⟩)

theorem WA_nil (hr : (Region.ready .any ops listed).isEmpty = true) (h : Q .normal E H) : WA P n ops fuel listed Q E H := fun O F a w ha hp => by
  have hr' : Region.ready .any ops listed = [] := List.isEmpty_iff.1 hr; have hq : Qf n O F Q .normal a w := ⟨by simp, by simp, E, H, ha, hp, h⟩
  cases fuel with
  | zero => exact ⟨hr', hq⟩
  | succ f => exact ⟨fun _ => hq, fun i hi => by rw [hr'] at hi; cases hi⟩

theorem wp_monoQ {o : Oper} {a : Act} {w : World} {K K' : Act → World → Prop} {Q1 Q2 : Exit → Act → World → Prop} (h : ∀ a w, K a w → K' a w) (hp : ∀ ch a w, Q1 (.panic ch) a w → Q2 (.panic ch) a w) (ho : LetsOut Q1 → LetsOut Q2)
    (hh : o.wp P a w K Q1) : o.wp P a w K' Q2 := by
  unfold Oper.wp at *; generalize (execOp a.eval o).run P w = r at *
  cases r with
  | ok m w' =>
    cases m <;> simp only [Oper.upon] at hh ⊢ <;>
      first
        | exact h _ _ hh
        | exact Calls.mono hh (fun e w'' he => by cases e <;> first | exact h _ _ he | exact hp _ _ _ he | exact ho he)
        | exact Rows.mono hh (fun _ _ he => h _ _ he)
  | halt x w' => cases x <;> simp only [Oper.upon] at hh ⊢ <;> first | exact hp _ _ _ hh | exact hh

/-- what the one operation comes to, out of a list of one -/
theorem wpOp_of_list {k : Nat} {o : Oper} (hk : ops[k]? = some o) {K : El → Hl → Prop} (h : WO P n ops [o] (sq K Q) E H) {O : World} {F : Hl} {a : Act} {w : World} (ha : Ag n a E) (hp : Hp O w (H ++ F)) :
    wpOp P ops (Qf n O F Q) k (fun a' w' => ∃ E' H', Ag n a' E' ∧ Hp O w' (H' ++ F) ∧ K E' H') a w := by
  have h1 := h O F a w ha hp; have key : ∀ a' w', wpList P ops (Qf n O F (sq K Q)) [] a' w' → ∃ E' H', Ag n a' E' ∧ Hp O w' (H' ++ F) ∧ K E' H' := fun a' w' hl => by
    obtain ⟨_, _, E', H', h2, h3, h4⟩ := hl; exact ⟨E', H', h2, h3, h4⟩
  unfold wpOp; simp only [hk]; unfold wpList at h1
  split
  · rename_i hw; rw [if_pos hw] at h1; rcases h1 with h1 | h1
    · exact .inl (wp_monoQ key (fun ch _ _ hq => absurd rfl (hq.1 ch)) (fun ⟨_, _, hq⟩ => absurd rfl hq.2.1) h1)
    · obtain ⟨_, _, _, hq⟩ := h1; exact absurd rfl hq.2.1
  · rename_i hw; rw [if_neg hw] at h1; exact key _ _ h1

theorem WA_one {k : Nat} {o : Oper} (hk : ops[k]? = some o) (hr : Region.ready .any ops listed = [k])
    (h : WO P n ops [o] (sq (fun E' H' => WA P n ops fuel (listed.setIfInBounds k true) Q E' H') Q) E H) : WA P n ops (fuel + 1) listed Q E H := fun O F a w ha hp => by
  refine ⟨fun h0 => (by rw [hr] at h0; cases h0), fun i hi => ?_⟩; rw [hr] at hi; have : i = k := by simpa using hi
  subst this; exact wpOp_mono (fun a' w' ⟨E', H', h2, h3, h4⟩ => h4 O F a' w' h2 h3) (wpOp_of_list hk h ha hp)
theorem WA_two {k j : Nat} {o o' : Oper} (hk : ops[k]? = some o) (hj : ops[j]? = some o') (hr : Region.ready .any ops listed = [k, j])
    (h : WO P n ops [o] (sq (fun E' H' => WA P n ops fuel (listed.setIfInBounds k true) Q E' H') Q) E H)
    (h' : WO P n ops [o'] (sq (fun E' H' => WA P n ops fuel (listed.setIfInBounds j true) Q E' H') Q) E H) : WA P n ops (fuel + 1) listed Q E H := fun O F a w ha hp => by
  refine ⟨fun h0 => (by rw [hr] at h0; cases h0), fun i hi => ?_⟩; rw [hr] at hi; have : i = k ∨ i = j := by simpa using hi
  rcases this with rfl | rfl
  · exact wpOp_mono (fun a' w' ⟨E', H', h2, h3, h4⟩ => h4 O F a' w' h2 h3) (wpOp_of_list hk h ha hp)
  · exact wpOp_mono (fun a' w' ⟨E', H', h2, h3, h4⟩ => h4 O F a' w' h2 h3) (wpOp_of_list hj h' ha hp)

/-! a pure operation first -/
def Yp (P : Program) (ops : Array Oper) (o : Oper) (v : Value) (a : Act) : Prop :=
  (Region.wanted o (yielded ops a.tmps) = true ∧ ∀ w, (execOp a.eval o).run P w = .ok (.value v) w) ∨ (Region.wanted o (yielded ops a.tmps) = false ∧ v = undef)
theorem Yp.of_same {o : Oper} {v : Value} {a a' : Act} (hy : Yp P ops o v a) (he : execOp a'.eval o = execOp a.eval o) (hw : Region.wanted o (yielded ops a'.tmps) = Region.wanted o (yielded ops a.tmps)) : Yp P ops o v a' := by
  unfold Yp at *; rw [he, hw]; exact hy
theorem Yp.wpOp {i : Nat} {o : Oper} {v : Value} {a : Act} {w : World} {Q' : Exit → Act → World → Prop} (hi : ops[i]? = some o) (hy : Yp P ops o v a) {K : Act → World → Prop} (h : K (a.put o.dst v) w) : wpOp P ops Q' i K a w := by
  unfold Go.wpOp; simp only [hi]; rcases hy with ⟨hw, hv⟩ | ⟨hw, rfl⟩
  · simp only [hw, if_true]; refine .inl ?_; unfold Oper.wp; rw [hv w, Oper.upon_value]; exact h
  · simp only [hw, Bool.false_eq_true, if_false]; exact h
theorem wpOp_put {j : Nat} {oi oj : Oper} {v : Value} {Q' : Exit → Act → World → Prop} (hQ : ∀ ch a w, ¬ Q' (.panic ch) a w) (hj : ops[j]? = some oj) (hap : oi.apart ops oj = true)
    (hsi : ∀ cs b, oi.op ≠ .select cs b) (hsj : ∀ cs b, oj.op ≠ .select cs b) {K : Act → World → Prop} {a : Act} {w : World} (hO : ¬ LetsOut Q')
    (hy : Yp P ops oi v a) (h : wpOp P ops Q' j K (a.put oi.dst v) w) : wpOp P ops Q' j (fun a' w' => Yp P ops oi v a' ∧ K (a'.put oi.dst v) w') a w := by
  obtain ⟨h1, h2, h3⟩ := Oper.apart_spec hap; have keep : ∀ (a : Act), Yp P ops oi v a → ∀ u, Yp P ops oi v (a.put oj.dst u) := fun a hy u =>
    hy.of_same (execOp_put oi hsi a oj.dst u h3) (wanted_put oi a oj.dst u h3)
  have keepd : ∀ (a : Act) d, Yp P ops oi v a → Yp P ops oi v { a with defers := d } := fun a d hy => hy.of_same rfl rfl; unfold wpOp at *; simp only [hj] at *; rw [wanted_put oj a oi.dst v h1] at h
  split
  · rename_i hw; simp only [hw, if_true] at h; rcases h with h | h
    · refine .inl ?_; unfold Oper.wp at *; rw [execOp_put oj hsj a oi.dst v h1] at h; generalize (execOp a.eval oj).run P w = r at *
      cases r with
      | ok m w' =>
        cases m <;> simp only [Oper.upon] at h ⊢
        case value u => exact ⟨keep a hy u, by rw [← Act.put_comm a v u h2]; exact h⟩
        case skip => exact ⟨keep a hy _, by rw [← Act.put_comm a v undef h2]; exact h⟩
        case defer d =>
          refine ⟨?_, ?_⟩
          · exact (keep _ (keepd a (d :: a.defers) hy) undef)
          · rw [Act.put_defers, Act.put_comm _ v undef h2] at h; exact h
        case enter f args =>
          refine Calls.mono h fun e w'' he => ?_
          cases e with
          | returned u => exact ⟨keep a hy u, by rw [← Act.put_comm a v u h2]; exact he⟩
          | panicked ch => exact absurd he (hQ _ _ _)
          | outgrown => exact absurd he hO
        case row row args =>
          refine Rows.mono h fun u w'' he => ?_; exact ⟨keep a hy u, by rw [← Act.put_comm a v u h2]; exact he⟩
      | halt x w' =>
        cases x <;> simp only [Oper.upon] at h ⊢
        exact absurd h (hQ _ _ _)
    · exact absurd h.2 hO
  · rename_i hw; simp only [hw] at h; exact ⟨keep a hy _, by rw [← Act.put_comm a v undef h2]; exact h⟩
theorem wpAny_first {Q' : Exit → Act → World → Prop} (hQ : ∀ ch a w, ¬ Q' (.panic ch) a w) (hO : ¬ LetsOut Q') {i : Nat} {oi : Oper} {v : Value} (hi : ops[i]? = some oi) (hsel : ∀ (j : Nat) (o : Oper) cs b, ops[j]? = some o → o.op ≠ .select cs b) :
    ∀ (fuel : Nat) (listed : Array Bool) (a : Act) (w : World),
      (∀ j oj, ops[j]? = some oj → j ≠ i → listed.getD j true = false → (∀ e ∈ oj.after, Region.binds .any e = true → e.on ≠ i) → oi.apart ops oj = true) →
      i ∈ Region.ready .any ops listed → Yp P ops oi v a →
      wpAny P .any ops Q' fuel (listed.setIfInBounds i true) (a.put oi.dst v) w → wpAny P .any ops Q' (fuel + 1) listed a w := by
  intro fuel
  induction fuel with
  | zero =>
    intro listed a w _ hr hy H; refine ⟨fun h => (by rw [h] at hr; cases hr), fun j hj => ?_⟩; by_cases hji : j = i
    · subst hji; exact hy.wpOp hi H
    · have := ready_mono hj hji; rw [H.1] at this
      cases this
  | succ fuel ih =>
    intro listed a w hfree hr hy H; refine ⟨fun h => (by rw [h] at hr; cases hr), fun j hj => ?_⟩; by_cases hji : j = i
    · subst hji; exact hy.wpOp hi H
    · have h1 := H.2 j (ready_mono hj hji); obtain ⟨hjun, oj, hoj, hall⟩ := mem_ready.1 hj; have hnot : ∀ e ∈ oj.after, Region.binds .any e = true → e.on ≠ i := fun e he hb heq => by
        have h1 := hall e he hb; have h0 := (mem_ready.1 hr).1; rw [heq] at h1; rcases Nat.lt_or_ge i listed.size with h' | h'
        · simp [h'] at h0 h1; rw [h0] at h1; cases h1
        · simp [Array.getElem?_eq_none h'] at h1
      have h2 := wpOp_put hQ hoj (hfree j oj hoj hji hjun hnot) (fun cs b => hsel i oi cs b hi) (fun cs b => hsel j oj cs b hoj) hO hy h1; have hfree' : ∀ k ok, ops[k]? = some ok → k ≠ i → (listed.setIfInBounds j true).getD k true = false →
          (∀ e ∈ ok.after, Region.binds .any e = true → e.on ≠ i) → oi.apart ops ok = true := fun k ok hk hki hun hno => by
        refine hfree k ok hk hki ?_ hno; by_cases hjk : j = k
        · subst hjk; exact hjun
        · rw [getD_set_ne true hjk] at hun; exact hun
      refine wpOp_mono (fun a' w' h3 => ih (listed.setIfInBounds j true) a' w' hfree' (ready_mono hr (Ne.symm hji)) h3.1 ?_) h2; rw [Array.setIfInBounds_comm _ _ hji]; exact h3.2

theorem Qf_np {O : World} {F : Hl} : ∀ ch a w, ¬ Qf n O F Q (.panic ch) a w := fun ch _ _ h => h.1 ch rfl
theorem Qf_no {O : World} {F : Hl} : ¬ LetsOut (Qf n O F Q) := fun ⟨_, _, h⟩ => h.2.1 rfl

/-- may operation k be taken first? -/
def okB (ops : Array Oper) (listed : Array Bool) (k : Nat) : Bool :=
  Region.noSelect ops && (Region.ready .any ops listed).contains k && Region.free .any ops listed k

theorem WA_p {v : Value} (k : Nat) {o : Oper} (hk : ops[k]? = some o) (hB : okB ops listed k = true) (hv : OP P n E o v) (hg : gd ops E o = some true) (hd : dl n o.dst = true)
    (h : WA P n ops fuel (listed.setIfInBounds k true) Q (pt o.dst v E) H) : WA P n ops (fuel + 1) listed Q E H := fun O F a w ha hp => by
  simp only [okB, Bool.and_eq_true] at hB; exact wpAny_first Qf_np Qf_no hk (Region.noSelect_spec hB.1.1) fuel listed a w (Region.free_spec hk hB.2) (by simpa using hB.1.2)
    (.inl ⟨gd_sound ha hg, fun w => hv a w ha⟩) (h O F _ w (ha.put _ _ (dl_spec hd)) hp)
theorem WA_no (k : Nat) {o : Oper} (hk : ops[k]? = some o) (hB : okB ops listed k = true) (hg : gd ops E o = some false) (hd : dl n o.dst = true)
    (h : WA P n ops fuel (listed.setIfInBounds k true) Q (pt o.dst undef E) H) : WA P n ops (fuel + 1) listed Q E H := fun O F a w ha hp => by
  simp only [okB, Bool.and_eq_true] at hB; exact wpAny_first Qf_np Qf_no hk (Region.noSelect_spec hB.1.1) fuel listed a w (Region.free_spec hk hB.2) (by simpa using hB.1.2)
    (.inr ⟨gd_sound ha hg, rfl⟩) (h O F _ w (ha.put _ _ (dl_spec hd)) hp)
theorem WA_env {E' : El} (he : Sub E E') (h : WA P n ops fuel listed Q E' H) : WA P n ops fuel listed Q E H := fun O F a w ha hp => h O F a w (ha.sub he.spec) hp

/-! operations that read, while nothing else can come up -/
def outs (ops : Array Oper) (listed : Array Bool) (ks : List Nat) : List Nat := (List.range ops.size).filter fun j => !listed.getD j true && !ks.contains j
/-- whatever is neither done nor among ks waits till all of ks is done -/
def sinkKB (ops : Array Oper) (listed : Array Bool) (ks : List Nat) : Bool :=
  match outs ops listed ks with
  | [] => true
  | t :: rest => ks.all (fun i => (t :: ks).any fun j => decide (i < j) && Region.waitsFor .any ops j i) && rest.all (fun j => (t :: rest).any fun i => decide (i < j) && Region.waitsFor .any ops j i)
def closedB (ops : Array Oper) (listed : Array Bool) : Bool :=
  decide (listed.size = ops.size) && (List.range ops.size).all fun j => !listed.getD j false || match ops[j]? with
    | some oj => oj.after.all fun e => !Region.binds .any e || listed.getD e.on false
    | none => true
structure KInv (ops : Array Oper) (l0 : Array Bool) (ks : List Nat) (listed : Array Bool) : Prop where
  size : listed.size = ops.size
  closed : ∀ j oj, ops[j]? = some oj → listed.getD j false = true → ∀ e ∈ oj.after, Region.binds .any e = true → listed.getD e.on false = true
  out : ∀ j ∈ outs ops l0 ks, listed.getD j true = false
  more : ∀ j, l0.getD j true = true → listed.getD j true = true
theorem KInv.init (ks : List Nat) (h : closedB ops listed = true) : KInv ops listed ks listed := by
  simp only [closedB, Bool.and_eq_true, decide_eq_true_eq] at h; refine ⟨h.1, fun j oj hj hl e he hb => ?_, fun j hj => ?_, fun _ h => h⟩
  · have hlt : j < ops.size := (Array.getElem?_eq_some_iff.1 hj).1; have h1 := List.all_eq_true.1 h.2 j (List.mem_range.2 hlt); rw [hl] at h1; simp only [Bool.not_true, Bool.false_or, hj] at h1; have h2 := Array.all_eq_true'.1 h1 e he; rw [hb] at h2; simpa using h2
  · have := (List.mem_filter.1 hj).2; simp only [Bool.and_eq_true, Bool.not_eq_true'] at this; exact this.1
theorem KInv.set {l0 : Array Bool} {ks : List Nat} {i : Nat} (inv : KInv ops l0 ks listed) (hi : i ∈ Region.ready .any ops listed) (hk : i ∈ ks) : KInv ops l0 ks (listed.setIfInBounds i true) := by
  obtain ⟨hun, oi, hoi, hall⟩ := mem_ready.1 hi; refine ⟨by simp [inv.size], fun j oj hj hl e he hb => ?_, fun j hj => ?_, fun j hj => ?_⟩
  · by_cases hij : i = j
    · subst hij; have : oj = oi := Option.some.inj (hj.symm.trans hoi); subst this; exact getD_set_true (hall e he hb)
    · rw [getD_set_ne false hij] at hl; exact getD_set_true (inv.closed j oj hj hl e he hb)
  · have hne : i ≠ j := fun e => by
      subst e; have := (List.mem_filter.1 hj).2; simp [hk] at this
    rw [getD_set_ne true hne]; exact inv.out j hj
  · by_cases hij : i = j
    · subst hij; have := inv.more i hj; rw [hun] at this; cases this
    · rw [getD_set_ne true hij]; exact inv.more j hj
theorem sink_waits {l0 : Array Bool} {ks : List Nat} (hs : sinkKB ops l0 ks = true) (inv : KInv ops l0 ks listed) :
    ∀ (d i : Nat), ops.size - i = d → i ∈ ks → listed.getD i true = false → ∀ t, t ∈ Region.ready .any ops listed → t ∈ ks := by
  intro d
  induction d using Nat.strongRecOn with
  | _ d ih =>
    intro i hd hi hun t hr; by_cases htk : t ∈ ks
    · exact htk
    exfalso
    obtain ⟨htun, ot, hot, hall⟩ := mem_ready.1 hr; have htlt : t < ops.size := (Array.getElem?_eq_some_iff.1 hot).1; have hto : t ∈ outs ops l0 ks := by
      refine List.mem_filter.2 ⟨List.mem_range.2 htlt, ?_⟩
      cases hl : l0.getD t true with
      | false => simp [htk]
      | true => have := inv.more t hl; rw [htun] at this; cases this
    unfold sinkKB at hs
    split at hs
    · rename_i he; rw [he] at hto; cases hto
    · rename_i t0 rest he; simp only [Bool.and_eq_true] at hs; rw [he] at hto; rcases List.mem_cons.1 hto with rfl | htr
      · have h1 := List.all_eq_true.1 hs.1 i hi; obtain ⟨j, hj, hj2⟩ := List.any_eq_true.1 h1; simp only [Bool.and_eq_true, decide_eq_true_eq] at hj2; obtain ⟨oj, hoj, e, hee, hb, hon⟩ := Region.waitsFor_spec hj2.2; have hjlt : j < ops.size := (Array.getElem?_eq_some_iff.1 hoj).1; rcases List.mem_cons.1 hj with rfl | hjk
        · have : oj = ot := Option.some.inj (hoj.symm.trans hot); subst this; have h2 := hall e hee hb; rw [hon, getD_both hun] at h2
          cases h2
        · cases hl : listed.getD j false with
          | true =>
            have h2 := inv.closed j oj hoj hl e hee hb; rw [hon, getD_both hun] at h2
            cases h2
          | false =>
            exact htk (ih (ops.size - j) (by omega) j rfl hjk (getD_in (by rw [inv.size]; omega) hl) t hr)
      · have h1 := List.all_eq_true.1 hs.2 t htr; obtain ⟨j, hj, hj2⟩ := List.any_eq_true.1 h1; simp only [Bool.and_eq_true, decide_eq_true_eq] at hj2; obtain ⟨oj, hoj, e, hee, hb, hon⟩ := Region.waitsFor_spec hj2.2; have : oj = ot := Option.some.inj (hoj.symm.trans hot); subst this; have h2 := hall e hee hb; rw [hon, getD_both (inv.out j (by rw [he]; exact hj))] at h2
        cases h2

def wpAnyK (P : Program) (ops : Array Oper) (w : World) (ks : List Nat) (L : Array Bool → Act → Prop) : Nat → Array Bool → Act → Prop
  | 0, listed, a => L listed a
  | f + 1, listed, a => Region.ready .any ops listed ≠ [] ∧ ∀ i ∈ Region.ready .any ops listed, i ∈ ks ∧ stOp P ops w i (wpAnyK P ops w ks L f (listed.setIfInBounds i true)) a
theorem wpAny_of_K {w : World} {ks : List Nat} {g : Nat} {L : Array Bool → Act → Prop} {Q' : Exit → Act → World → Prop} (hL : ∀ listed a, L listed a → wpAny P .any ops Q' g listed a w) :
    ∀ (f : Nat) (listed : Array Bool) (a : Act), wpAnyK P ops w ks L f listed a → wpAny P .any ops Q' (f + g) listed a w
  | 0, listed, a, h => by rw [Nat.zero_add]; exact hL _ _ h
  | f + 1, listed, a, h => by
    rw [show f + 1 + g = (f + g) + 1 by omega]; exact ⟨fun h0 => absurd h0 h.1, fun i hi => wpOp_of_stOp (fun a' h' => wpAny_of_K hL f _ a' h') (h.2 i hi).2⟩
theorem wpAnyK_first {w : World} {ks : List Nat} {l0 : Array Bool} {i : Nat} {oi : Oper} {v : Value} {L : Array Bool → Act → Prop} (hi : ops[i]? = some oi) (hsel : ∀ (j : Nat) (o : Oper) cs b, ops[j]? = some o → o.op ≠ .select cs b)
    (hs : sinkKB ops l0 ks = true) (hik : i ∈ ks) (hdone : ∀ listed a, L listed a → ∀ j ∈ ks, listed.getD j true = true) :
    ∀ (f : Nat) (listed : Array Bool) (a : Act), KInv ops l0 ks listed →
      (∀ j oj, ops[j]? = some oj → j ≠ i → listed.getD j true = false → (∀ e ∈ oj.after, Region.binds .any e = true → e.on ≠ i) → oi.apart ops oj = true) →
      i ∈ Region.ready .any ops listed → YieldsAt P ops w oi v a →
      wpAnyK P ops w ks L f (listed.setIfInBounds i true) (a.put oi.dst v) → wpAnyK P ops w ks L (f + 1) listed a := by
  intro f
  induction f with
  | zero =>
    intro listed a inv _ hr hy H; have hun := (mem_ready.1 hr).1; refine ⟨fun h => (by rw [h] at hr; cases hr), fun j hj => ?_⟩; have hjk : j ∈ ks := sink_waits hs inv _ i rfl hik hun j hj; refine ⟨hjk, ?_⟩; by_cases hji : j = i
    · subst hji; exact hy.stOp hi H
    · have h1 := hdone _ _ H j hjk; have h2 := (mem_ready.1 (ready_mono hj hji)).1; rw [h1] at h2; cases h2
  | succ f ih =>
    intro listed a inv hfree hr hy H; have hun := (mem_ready.1 hr).1; refine ⟨fun h => (by rw [h] at hr; cases hr), fun j hj => ?_⟩; have hjk : j ∈ ks := sink_waits hs inv _ i rfl hik hun j hj; refine ⟨hjk, ?_⟩; by_cases hji : j = i
    · subst hji; exact hy.stOp hi H
    · have h1 := (H.2 j (ready_mono hj hji)).2; obtain ⟨hjun, oj, hoj, hall⟩ := mem_ready.1 hj; have hnot : ∀ e ∈ oj.after, Region.binds .any e = true → e.on ≠ i := fun e he hb heq => by
        have h1 := hall e he hb; rw [heq, getD_both hun] at h1
        cases h1
      have h2 := stOp_put hoj (hfree j oj hoj hji hjun hnot) (fun cs b => hsel i oi cs b hi) (fun cs b => hsel j oj cs b hoj) hy h1; have hfree' : ∀ k ok, ops[k]? = some ok → k ≠ i → (listed.setIfInBounds j true).getD k true = false →
          (∀ e ∈ ok.after, Region.binds .any e = true → e.on ≠ i) → oi.apart ops ok = true := fun k ok hk hki hun hno => by
        refine hfree k ok hk hki ?_ hno; by_cases hjk : j = k
        · subst hjk; exact hjun
        · rw [getD_set_ne true hjk] at hun; exact hun
      refine stOp_mono (fun a' h3 => ih (listed.setIfInBounds j true) a' (inv.set hj hjk) hfree' (ready_mono hr (Ne.symm hji)) h3.1 ?_) h2; rw [Array.setIfInBounds_comm _ _ hji]; exact h3.2

/-- the operations ks, one behind the other, each of which reads alone -/
def WK (P : Program) (n : Nat) (ops : Array Oper) : List Nat → (El → Prop) → El → Hl → Prop
  | [], K, E, _ => K E
  | k :: ks, K, E, H => ∃ o v, ops[k]? = some o ∧ ((gd ops E o = some true ∧ OV P n E H o v) ∨ (gd ops E o = some false ∧ v = undef)) ∧ dl n o.dst = true ∧ WK P n ops ks K (pt o.dst v E) H
theorem WK_nil {K : El → Prop} (h : K E) : WK P n ops [] K E H := h
theorem WK_v {K : El → Prop} {k : Nat} {ks : List Nat} {o : Oper} {v : Value} (hk : ops[k]? = some o) (hv : OV P n E H o v) (hg : gd ops E o = some true) (hd : dl n o.dst = true) (h : WK P n ops ks K (pt o.dst v E) H) : WK P n ops (k :: ks) K E H :=
  ⟨o, v, hk, .inl ⟨hg, hv⟩, hd, h⟩
theorem WK_no {K : El → Prop} {k : Nat} {ks : List Nat} {o : Oper} (hk : ops[k]? = some o) (hg : gd ops E o = some false) (hd : dl n o.dst = true) (h : WK P n ops ks K (pt o.dst undef E) H) : WK P n ops (k :: ks) K E H :=
  ⟨o, undef, hk, .inr ⟨hg, rfl⟩, hd, h⟩

def allOn : List Nat → Array Bool → Array Bool
  | [], l => l
  | k :: ks, l => allOn ks (l.setIfInBounds k true)
def lexK (ops : Array Oper) : List Nat → Array Bool → Bool
  | [], _ => true
  | k :: ks, l => (Region.ready .any ops l).contains k && Region.free .any ops l k && lexK ops ks (l.setIfInBounds k true)
def blkB (ops : Array Oper) (listed : Array Bool) (ks : List Nat) : Bool :=
  Region.noSelect ops && sinkKB ops listed ks && closedB ops listed && lexK ops ks listed && ks.all fun k => (allOn ks listed).getD k true

theorem wpAnyK_lex {w : World} {ks0 : List Nat} {l0 : Array Bool} {O : World} {F : Hl} {K : El → Prop} (hp : Hp O w (H ++ F)) (hsel : Region.noSelect ops = true) (hs : sinkKB ops l0 ks0 = true) (hall : ∀ j ∈ ks0, (allOn ks0 l0).getD j true = true) :
    ∀ (ks : List Nat) (listed : Array Bool) (E : El) (a : Act), allOn ks listed = allOn ks0 l0 → (∀ k ∈ ks, k ∈ ks0) → KInv ops l0 ks0 listed → lexK ops ks listed = true → Ag n a E → WK P n ops ks K E H →
    wpAnyK P ops w ks0 (fun l' a' => l' = allOn ks0 l0 ∧ ∃ E', Ag n a' E' ∧ K E') ks.length listed a
  | [], listed, E, a, he, _, _, _, ha, h => ⟨he, E, ha, h⟩
  | k :: ks, listed, E, a, he, hin, inv, hB, ha, h => by
    simp only [lexK, Bool.and_eq_true] at hB; obtain ⟨⟨hr, hf⟩, hB'⟩ := hB; obtain ⟨o, v, hk, hv, hd, h'⟩ := h; have hr' : k ∈ Region.ready .any ops listed := by simpa using hr
    have hy : YieldsAt P ops w o v a := by
      rcases hv with ⟨hg, hv⟩ | ⟨hg, rfl⟩
      · exact .inl ⟨gd_sound ha hg, .inl (hv O F a w ha hp)⟩
      · exact .inr ⟨gd_sound ha hg, rfl⟩
    exact wpAnyK_first hk (Region.noSelect_spec hsel) hs (hin k (by simp)) (fun l' a' hL j hj => by rw [hL.1]; exact hall j hj) ks.length listed a inv (Region.free_spec hk hf) hr' hy
      (wpAnyK_lex hp hsel hs hall ks _ _ _ he (fun k' hk' => hin k' (by simp [hk'])) (inv.set hr' (hin k (by simp))) hB' (ha.put _ _ (dl_spec hd)) h')

theorem WA_k (ks : List Nat) {f : Nat} (hf : ks.length + fuel = f) (hB : blkB ops listed ks = true) (h : WK P n ops ks (fun E' => WA P n ops fuel (allOn ks listed) Q E' H) E H) : WA P n ops f listed Q E H := fun O F a w ha hp => by
  subst hf; simp only [blkB, Bool.and_eq_true] at hB; obtain ⟨⟨⟨⟨h1, h2⟩, h3⟩, h4⟩, h5⟩ := hB; exact wpAny_of_K (fun l' a' hL => by
    obtain ⟨rfl, E', ha', hK⟩ := hL; exact hK O F a' w ha' hp) _ _ _ (wpAnyK_lex hp h1 h2 (fun j hj => List.all_eq_true.1 h5 j hj) ks listed E a rfl (fun _ h => h) (KInv.init ks h3) h4 ha h)
end
end Go.Proofs.YtpbahgddoamhgaaGreatDoor.Sx
namespace Go.Proofs.YtpbahgddoamhgaaGreatDoor.Sx
open Go

theorem dT {p : Prop} [Decidable p] (h : p) : decide p = true := decide_eq_true h
theorem dF {p : Prop} [Decidable p] (h : ¬ p) : decide p = false := decide_eq_false h

/-- numbers below M stand in the kind k as they are -/
structure Kd (k : IntKind) (M : Nat) : Prop where
  w : ∀ x : Nat, x < M → k.wrap x = x
  le : M ≤ 2 ^ k.bits
  pow : ∃ e, M = 2 ^ e

theorem kI : Kd .i64 9223372036854775808 := ⟨fun x h => by simp only [IntKind.wrap, IntKind.bits, IntKind.signed, Bool.true_and]; rw [if_neg (by simp; omega)]; omega, by decide, 63, by decide⟩
theorem kU : Kd .u64 18446744073709551616 := ⟨fun x h => by simp only [IntKind.wrap, IntKind.bits, IntKind.signed, Bool.false_and, Bool.false_eq_true, if_false]; omega, by decide, 64, by decide⟩
theorem kW : Kd .u32 4294967296 := ⟨fun x h => by simp only [IntKind.wrap, IntKind.bits, IntKind.signed, Bool.false_and, Bool.false_eq_true, if_false]; omega, by decide, 32, by decide⟩
theorem kH : Kd .u16 65536 := ⟨fun x h => by simp only [IntKind.wrap, IntKind.bits, IntKind.signed, Bool.false_and, Bool.false_eq_true, if_false]; omega, by decide, 16, by decide⟩
theorem kB : Kd .u8 256 := ⟨fun x h => by simp only [IntKind.wrap, IntKind.bits, IntKind.signed, Bool.false_and, Bool.false_eq_true, if_false]; omega, by decide, 8, by decide⟩

/-- an unsigned kind of M numbers -/
structure Ku (k : IntKind) (M : Nat) : Prop where
  d : Kd k M
  eq : 2 ^ k.bits = M
  s : k.signed = false
theorem uU : Ku .u64 18446744073709551616 := ⟨kU, by decide, rfl⟩
theorem uW : Ku .u32 4294967296 := ⟨kW, by decide, rfl⟩
theorem uH : Ku .u16 65536 := ⟨kH, by decide, rfl⟩
theorem uB : Ku .u8 256 := ⟨kB, by decide, rfl⟩
theorem Ku.wrap {k : IntKind} {M : Nat} (h : Ku k M) (x : Nat) : k.wrap x = ((x % M : Nat) : Int) := by
  have h2 : ((2 : Int) ^ k.bits) = (M : Int) := by rw [← h.eq]; norm_cast
  simp only [IntKind.wrap, h.s, Bool.false_and, Bool.false_eq_true, if_false, h2]; omega

section
variable {P : Program} {n : Nat} {E : El} {o : Oper} {t t' : TypeId} {x y : Operand} {k k' : IntKind} {a b M : Nat} {i j : Int}

theorem n_add (ho : o.op = .binOp .add t x y t') (hx : ev E x = some (.int k i)) (hy : ev E y = some (.int k j)) [hi : NO i a] [hj : NO j b] (K : Kd k M) (h : a + b < M) : OP P n E o (.int k (a + b : Nat)) := by
  obtain rfl := hi.h; obtain rfl := hj.h; exact
  v_add ho hx hy (by rw [← Int.natCast_add]; exact K.w _ h)
theorem n_sub (ho : o.op = .binOp .sub t x y t') (hx : ev E x = some (.int k i)) (hy : ev E y = some (.int k j)) [hi : NO i a] [hj : NO j b] (K : Kd k M) (h : b ≤ a) (h2 : a < M) : OP P n E o (.int k (a - b : Nat)) := by
  obtain rfl := hi.h; obtain rfl := hj.h; exact
  v_sub ho hx hy (by rw [← Int.ofNat_sub h]; exact K.w _ (by omega))
theorem n_mul (ho : o.op = .binOp .mul t x y t') (hx : ev E x = some (.int k i)) (hy : ev E y = some (.int k j)) [hi : NO i a] [hj : NO j b] (K : Kd k M) (h : a * b < M) : OP P n E o (.int k (a * b : Nat)) := by
  obtain rfl := hi.h; obtain rfl := hj.h; exact
  v_mul ho hx hy (by rw [← Int.natCast_mul]; exact K.w _ h)
theorem n_quo (ho : o.op = .binOp .quo t x y t') (hx : ev E x = some (.int k i)) (hy : ev E y = some (.int k j)) [hi : NO i a] [hj : NO j b] (K : Kd k M) (h : 0 < b) (h2 : a < M) : OP P n E o (.int k (a / b : Nat)) := by
  obtain rfl := hi.h; obtain rfl := hj.h; exact
  v_quo ho hx hy (by omega) (by
    rw [Int.tdiv_eq_ediv_of_nonneg (by omega), ← Int.natCast_ediv]; exact K.w _ (Nat.lt_of_le_of_lt (Nat.div_le_self _ _) h2))
theorem n_rem (ho : o.op = .binOp .rem t x y t') (hx : ev E x = some (.int k i)) (hy : ev E y = some (.int k j)) [hi : NO i a] [hj : NO j b] (h : 0 < b) : OP P n E o (.int k (a % b : Nat)) := by
  obtain rfl := hi.h; obtain rfl := hj.h; exact
  v_rem ho hx hy (by omega) (by rw [Int.tmod_eq_emod_of_nonneg (by omega), ← Int.natCast_emod])
theorem ofInt_toNat (K : Kd k M) (h : a < M) : (BitVec.ofInt k.bits (a : Int)).toNat = a := by
  have := K.le; rw [BitVec.ofInt_natCast, BitVec.toNat_ofNat, Nat.mod_eq_of_lt (by omega)]
theorem n_and (ho : o.op = .binOp .and t x y t') (hx : ev E x = some (.int k i)) (hy : ev E y = some (.int k j)) [hi : NO i a] [hj : NO j b] (K : Kd k M) (h : a < M) (h2 : b < M) : OP P n E o (.int k (a &&& b : Nat)) := by
  obtain rfl := hi.h; obtain rfl := hj.h; exact
  v_and ho hx hy (by
    rw [BitVec.toNat_and, ofInt_toNat K h, ofInt_toNat K h2]; exact K.w _ (Nat.lt_of_le_of_lt Nat.and_le_left h))
theorem n_or (ho : o.op = .binOp .or t x y t') (hx : ev E x = some (.int k i)) (hy : ev E y = some (.int k j)) [hi : NO i a] [hj : NO j b] (K : Kd k M) (h : a < M) (h2 : b < M) : OP P n E o (.int k (a ||| b : Nat)) := by
  obtain rfl := hi.h; obtain rfl := hj.h; exact
  v_or ho hx hy (by
    rw [BitVec.toNat_or, ofInt_toNat K h, ofInt_toNat K h2]; obtain ⟨e, rfl⟩ := K.pow; exact K.w _ (Nat.or_lt_two_pow h h2))
theorem n_xor (ho : o.op = .binOp .xor t x y t') (hx : ev E x = some (.int k i)) (hy : ev E y = some (.int k j)) [hi : NO i a] [hj : NO j b] (K : Kd k M) (h : a < M) (h2 : b < M) : OP P n E o (.int k (a ^^^ b : Nat)) := by
  obtain rfl := hi.h; obtain rfl := hj.h; exact
  v_xor ho hx hy (by
    rw [BitVec.toNat_xor, ofInt_toNat K h, ofInt_toNat K h2]; obtain ⟨e, rfl⟩ := K.pow; exact K.w _ (Nat.xor_lt_two_pow h h2))
theorem n_shl (ho : o.op = .binOp .shl t x y t') (hx : ev E x = some (.int k i)) (hy : ev E y = some (.int k' j)) [hi : NO i a] [hj : NO j b] (K : Kd k M) (h : b ≤ k.bits) (h2 : a * 2 ^ b < M) : OP P n E o (.int k (a * 2 ^ b : Nat)) := by
  obtain rfl := hi.h; obtain rfl := hj.h; exact
  v_shl ho hx hy (by omega) (by
    rw [Int.toNat_natCast, Nat.min_eq_left h]; have : (a : Int) * 2 ^ b = ((a * 2 ^ b : Nat) : Int) := by norm_cast
    rw [this]; exact K.w _ h2)
theorem n_shlm (ho : o.op = .binOp .shl t x y t') (hx : ev E x = some (.int k i)) (hy : ev E y = some (.int k' j)) [hi : NO i a] [hj : NO j b] (K : Ku k M) (h : b ≤ k.bits) : OP P n E o (.int k (a * 2 ^ b % M : Nat)) := by
  obtain rfl := hi.h; obtain rfl := hj.h; exact
  v_shl ho hx hy (by omega) (by
    rw [Int.toNat_natCast, Nat.min_eq_left h]; have : (a : Int) * 2 ^ b = ((a * 2 ^ b : Nat) : Int) := by norm_cast
    rw [this]; exact K.wrap _)
theorem n_shr (ho : o.op = .binOp .shr t x y t') (hx : ev E x = some (.int k i)) (hy : ev E y = some (.int k' j)) [hi : NO i a] [hj : NO j b] (h : b ≤ k.bits) : OP P n E o (.int k (a / 2 ^ b : Nat)) := by
  obtain rfl := hi.h; obtain rfl := hj.h; exact
  v_shr ho hx hy (by omega) (by
    rw [Int.toNat_natCast, Nat.min_eq_left h, Int.fdiv_eq_ediv_of_nonneg _ (by exact_mod_cast Nat.zero_le _)]
    norm_cast)
theorem n_cv {s u : TypeId} {d : TypeDesc} (ho : o.op = .convert s u x) (hs : P.underlying s = some d) (ht : P.underlying u = some (.int k)) (hx : ev E x = some (.int k' i)) [hi : NO i a] (K : Kd k M) (h : a < M) : OP P n E o (.int k (a : Nat)) := by
  obtain rfl := hi.h; exact
  v_cv ho hs ht hx (K.w _ h)
theorem n_cvm {s u : TypeId} {d : TypeDesc} (ho : o.op = .convert s u x) (hs : P.underlying s = some d) (ht : P.underlying u = some (.int k)) (hx : ev E x = some (.int k' i)) [hi : NO i a] (K : Ku k M) : OP P n E o (.int k (a % M : Nat)) := by
  obtain rfl := hi.h; exact
  v_cv ho hs ht hx (K.wrap _)
theorem n_lt (ho : o.op = .binOp .lss t x y t') (hx : ev E x = some (.int k i)) (hy : ev E y = some (.int k j)) [hi : NO i a] [hj : NO j b] : OP P n E o (.bool (decide (a < b))) := by obtain rfl := hi.h; obtain rfl := hj.h; exact v_lt ho hx hy (by simp)
theorem n_le (ho : o.op = .binOp .leq t x y t') (hx : ev E x = some (.int k i)) (hy : ev E y = some (.int k j)) [hi : NO i a] [hj : NO j b] : OP P n E o (.bool (decide (a ≤ b))) := by obtain rfl := hi.h; obtain rfl := hj.h; exact v_le ho hx hy (by simp)
theorem n_gt (ho : o.op = .binOp .gtr t x y t') (hx : ev E x = some (.int k i)) (hy : ev E y = some (.int k j)) [hi : NO i a] [hj : NO j b] : OP P n E o (.bool (decide (b < a))) := by obtain rfl := hi.h; obtain rfl := hj.h; exact v_gt ho hx hy (by simp)
theorem n_ge (ho : o.op = .binOp .geq t x y t') (hx : ev E x = some (.int k i)) (hy : ev E y = some (.int k j)) [hi : NO i a] [hj : NO j b] : OP P n E o (.bool (decide (b ≤ a))) := by obtain rfl := hi.h; obtain rfl := hj.h; exact v_ge ho hx hy (by simp)
theorem n_eq (ho : o.op = .binOp .eql t x y t') (hx : ev E x = some (.int k i)) (hy : ev E y = some (.int k j)) [hi : NO i a] [hj : NO j b] : OP P n E o (.bool (decide (a = b))) := by obtain rfl := hi.h; obtain rfl := hj.h; exact v_eq ho hx hy (by simp [Int.ofNat_inj])
theorem n_ne (ho : o.op = .binOp .neq t x y t') (hx : ev E x = some (.int k i)) (hy : ev E y = some (.int k j)) [hi : NO i a] [hj : NO j b] : OP P n E o (.bool (decide (a ≠ b))) := by obtain rfl := hi.h; obtain rfl := hj.h; exact v_ne ho hx hy (by simp [Int.ofNat_inj])
theorem n_min {ts : Array TypeId} (ho : o.op = .call ⟨.builtin .min, #[x, y], ts⟩) (hx : ev E x = some (.int k i)) (hy : ev E y = some (.int k' j)) [hi : NO i a] [hj : NO j b] : OP P n E o (.int k (min a b : Nat)) := by obtain rfl := hi.h; obtain rfl := hj.h; exact v_min ho hx hy (by omega)
end
end Go.Proofs.YtpbahgddoamhgaaGreatDoor.Sx
namespace Go.Proofs.YtpbahgddoamhgaaGreatDoor.Sx
open Go
section
variable {P : Program} {n : Nat} {Q : Exit → El → Hl → Prop} {E : El} {H : Hl} {ops : Array Oper} {o : Oper} {l : List Oper} {d : Nat} {v : Value}
theorem wv (hv : OV P n E H o v) (hg : gd ops E o = some true) (hd : o.dst = some d) (hn : Nat.blt d n = true) (h : WO P n ops l Q ((d, v) :: E) H) : WO P n ops (o :: l) Q E H :=
  WO_v hv hg (by rw [hd]; exact hn) (by rw [hd]; exact h)
theorem wp (hv : OP P n E o v) (hg : gd ops E o = some true) (hd : o.dst = some d) (hn : Nat.blt d n = true) (h : WO P n ops l Q ((d, v) :: E) H) : WO P n ops (o :: l) Q E H :=
  wv hv.ov hg hd hn h
theorem wno (hg : gd ops E o = some false) (hd : o.dst = some d) (hn : Nat.blt d n = true) (h : WO P n ops l Q ((d, undef) :: E) H) : WO P n ops (o :: l) Q E H :=
  WO_no hg (by rw [hd]; exact hn) (by rw [hd]; exact h)
theorem wc {f : FuncId} {args : Array Value} {R : Value → Hl → Prop} {H1 H2 : Hl} (ho : OE P n E H o f args) (hg : gd ops E o = some true) (hd : o.dst = some d) (hn : Nat.blt d n = true)
    (hc : CallsL P f args H1 R) (hs : HSub H H1 H2) (h : ∀ v H', R v H' → WO P n ops l Q ((d, v) :: E) (H2 ++ H')) : WO P n ops (o :: l) Q E H :=
  WO_c ho hg (by rw [hd]; exact hn) hc hs (by rw [hd]; exact h)
theorem wcn {f : FuncId} {args : Array Value} {R : Value → Hl → Prop} {H1 H2 : Hl} (ho : OE P n E H o f args) (hg : gd ops E o = some true) (hd : o.dst = none)
    (hc : CallsL P f args H1 R) (hs : HSub H H1 H2) (h : ∀ v H', R v H' → WO P n ops l Q E (H2 ++ H')) : WO P n ops (o :: l) Q E H :=
  WO_c ho hg (by rw [hd]; rfl) hc hs (by rw [hd]; exact h)
theorem ws {R : Value → Hl → Prop} (hv : OS P n E H o R) (hg : gd ops E o = some true) (hd : o.dst = some d) (hn : Nat.blt d n = true) (h : ∀ v H', R v H' → WO P n ops l Q ((d, v) :: E) H') : WO P n ops (o :: l) Q E H :=
  WO_s hv hg (by rw [hd]; exact hn) (by rw [hd]; exact h)
theorem wsn {R : Value → Hl → Prop} (hv : OS P n E H o R) (hg : gd ops E o = some true) (hd : o.dst = none) (h : ∀ v H', R v H' → WO P n ops l Q E H') : WO P n ops (o :: l) Q E H :=
  WO_s hv hg (by rw [hd]; rfl) (by rw [hd]; exact h)
theorem wf {ob : Obj} (hv : OS P n E H o (Fresh H ob)) (hg : gd ops E o = some true) (hd : o.dst = some d) (hn : Nat.blt d n = true) (h : ∀ b, (∀ p ∈ H, p.1 ≠ b) → WO P n ops l Q ((d, .pointer (some ⟨b, 0, none⟩)) :: E) ((b, ob) :: H)) : WO P n ops (o :: l) Q E H :=
  ws hv hg hd hn fun v H' ⟨b, h1, h2, h3⟩ => by subst h1 h2; exact h b h3
theorem ld {t ty : TypeId} {x : Operand} {b p : Nat} {c : List Value} {fz : Nat × Nat} {r : Obj → Hl} (ho : o.op = .load t x) (hx : ev E x = some (.pointer (some ⟨b, p, none⟩))) (ht : ∀ w, (isAgg t).run P w = .ok false w)
    [ha : AtH H b (.cells c.toArray ty fz) r] [hc : CAt c p v] : OV P n E H o v := v_ld ho hx ht hc.h
theorem wst {t ty : TypeId} {x y : Operand} {b p : Nat} {c c' : List Value} {r : Obj → Hl} (ho : o.op = .store t x y) (hx : ev E x = some (.pointer (some ⟨b, p, none⟩))) (hy : ev E y = some v) (hz : ∀ w, (sizeOf t).run P w = .ok 1 w) (hv : one v = true)
    [ha : AtH H b (.cells c.toArray ty (0, 0)) r] [hc : CSet c p v c'] (hg : gd ops E o = some true) (hd : o.dst = none) (h : WO P n ops l Q E (r (.cells c'.toArray ty (0, 0)))) : WO P n ops (o :: l) Q E H :=
  WO_s (v_st ho hx hy hz hv hc.h hc.lt) hg (by rw [hd]; rfl) fun u H' ⟨_, h2⟩ => by rw [hd, h2]; exact h
theorem wst' {t ty : TypeId} {x y : Operand} {b p : Nat} {c c' : List Value} {r : Obj → Hl} (ho : o.op = .store t x y) (hx : ev E x = some (.pointer (some ⟨b, p, none⟩))) (hy : ev E y = some v) (hz : ∀ w, (sizeOf t).run P w = .ok 1 w) (hv : one v = true)
    [ha : AtH H b (.cells c.toArray ty (0, 0)) r] (hc : c.set p v = c') (hl : p < c.length) (hg : gd ops E o = some true) (hd : o.dst = none) (h : WO P n ops l Q E (r (.cells c'.toArray ty (0, 0)))) : WO P n ops (o :: l) Q E H :=
  WO_s (v_st ho hx hy hz hv hc hl) hg (by rw [hd]; rfl) fun u H' ⟨_, h2⟩ => by rw [hd, h2]; exact h

theorem kv {K : El → Prop} {k : Nat} {ks : List Nat} (hk : ops[k]? = some o) (hv : OV P n E H o v) (hg : gd ops E o = some true) (hd : o.dst = some d) (hn : Nat.blt d n = true) (h : WK P n ops ks K ((d, v) :: E) H) : WK P n ops (k :: ks) K E H :=
  WK_v hk hv hg (by rw [hd]; exact hn) (by rw [hd]; exact h)
theorem kp {K : El → Prop} {k : Nat} {ks : List Nat} (hk : ops[k]? = some o) (hv : OP P n E o v) (hg : gd ops E o = some true) (hd : o.dst = some d) (hn : Nat.blt d n = true) (h : WK P n ops ks K ((d, v) :: E) H) : WK P n ops (k :: ks) K E H :=
  kv hk hv.ov hg hd hn h
theorem kno {K : El → Prop} {k : Nat} {ks : List Nat} (hk : ops[k]? = some o) (hg : gd ops E o = some false) (hd : o.dst = some d) (hn : Nat.blt d n = true) (h : WK P n ops ks K ((d, undef) :: E) H) : WK P n ops (k :: ks) K E H :=
  WK_no hk hg (by rw [hd]; exact hn) (by rw [hd]; exact h)
theorem ap (k : Nat) {fuel : Nat} {listed : Array Bool} (hk : ops[k]? = some o) (hB : okB ops listed k = true) (hv : OP P n E o v) (hg : gd ops E o = some true) (hd : o.dst = some d) (hn : Nat.blt d n = true)
    (h : WA P n ops fuel (listed.setIfInBounds k true) Q ((d, v) :: E) H) : WA P n ops (fuel + 1) listed Q E H :=
  WA_p k hk hB hv hg (by rw [hd]; exact hn) (by rw [hd]; exact h)
theorem ano (k : Nat) {fuel : Nat} {listed : Array Bool} (hk : ops[k]? = some o) (hB : okB ops listed k = true) (hg : gd ops E o = some false) (hd : o.dst = some d) (hn : Nat.blt d n = true)
    (h : WA P n ops fuel (listed.setIfInBounds k true) Q ((d, undef) :: E) H) : WA P n ops (fuel + 1) listed Q E H :=
  WA_no k hk hB hg (by rw [hd]; exact hn) (by rw [hd]; exact h)

theorem ret_of {rs : List ResultVar} {R : Value → Hl → Prop} (h : resv rs E = some v) (hR : R v H) : bodyQ rs R .ret E H := ⟨v, h, hR⟩
theorem end_of {rs : List ResultVar} {R : Value → Hl → Prop} (h : resv rs E = some v) (hR : R v H) : bodyQ rs R .normal E H := ⟨v, h, hR⟩
end
end Go.Proofs.YtpbahgddoamhgaaGreatDoor.Sx
namespace Go.Proofs.YtpbahgddoamhgaaGreatDoor.Sx
open Go
theorem ap4 {α : Type} : (∀ a b c : List α, a ++ b ++ c = a ++ (b ++ c)) ∧ (∀ (x : α) (a b : List α), x :: a ++ b = x :: (a ++ b)) ∧ (∀ a : List α, [] ++ a = a) ∧ (∀ a : List α, a ++ [] = a) := ⟨List.append_assoc, fun _ _ _ => rfl, fun _ => rfl, List.append_nil⟩
def selE (E : El) : List Nat → Option El
  | [] => some []
  | k :: l => match lk E k, selE E l with
    | some v, some r => some ((k, v) :: r)
    | _, _ => none
theorem selE_sub {E : El} : ∀ {l : List Nat} {E' : El}, selE E l = some E' → Sub E E'
  | [], E', h => by simp only [selE, Option.some.injEq] at h; subst h; exact trivial
  | k :: l, E', h => by
    rw [selE] at h
    split at h
    · rename_i v r h1 h2
      injection h with h
      subst h
      exact ⟨h1, selE_sub h2⟩
    · cases h
section
variable {P : Program} {n : Nat} {E E' : El} {H : Hl} {o : Oper} {ops : Array Oper} {l : List Oper} {Q : Exit → El → Hl → Prop} {v : Value} {d : Nat} {x : Operand} {K : El → Prop} {k : Nat} {ks : List Nat} {c : Code}
theorem W.keep (s : List Nat) (he : selE E s = some E') (h : W P n c Q E' H) : W P n c Q E H := W.env (selE_sub he) h
theorem xv (hv : OV P n E H o v) (h0 : (gd ops E o, o.dst, Nat.blt d n) = (some true, some d, true)) (h : WO P n ops l Q ((d, v) :: E) H) : WO P n ops (o :: l) Q E H := by
  simp only [Prod.mk.injEq] at h0
  exact wv hv h0.1 h0.2.1 h0.2.2 h
theorem xp (hv : OP P n E o v) (h0 : (gd ops E o, o.dst, Nat.blt d n) = (some true, some d, true)) (h : WO P n ops l Q ((d, v) :: E) H) : WO P n ops (o :: l) Q E H := xv hv.ov h0 h
theorem xm (h0 : (o.op, gd ops E o, o.dst, Nat.blt d n) = (.move x, some true, some d, true)) (hx : ev E x = some v) (h : WO P n ops l Q ((d, v) :: E) H) : WO P n ops (o :: l) Q E H := by
  simp only [Prod.mk.injEq] at h0
  exact wp (v_mv h0.1 hx) h0.2.1 h0.2.2.1 h0.2.2.2 h
theorem xa (h0 : (o.op, gd ops E o, o.dst, Nat.blt d n) = (.assign x, some true, some d, true)) (hx : ev E x = some v) (h : WO P n ops l Q ((d, v) :: E) H) : WO P n ops (o :: l) Q E H := by
  simp only [Prod.mk.injEq] at h0
  exact wp (v_as h0.1 hx) h0.2.1 h0.2.2.1 h0.2.2.2 h
theorem xn {p : Addr} (h0 : (o.op, gd ops E o, o.dst, Nat.blt d n) = (.nilCheck x, some true, some d, true)) (hx : ev E x = some (.pointer (some p))) (h : WO P n ops l Q ((d, .pointer (some p)) :: E) H) : WO P n ops (o :: l) Q E H := by
  simp only [Prod.mk.injEq] at h0
  exact wp (v_nil h0.1 hx) h0.2.1 h0.2.2.1 h0.2.2.2 h
theorem xno (h0 : (gd ops E o, o.dst, Nat.blt d n) = (some false, some d, true)) (h : WO P n ops l Q ((d, undef) :: E) H) : WO P n ops (o :: l) Q E H := by
  simp only [Prod.mk.injEq] at h0
  exact wno h0.1 h0.2.1 h0.2.2 h
theorem yv (hk : ops[k]? = some o) (hv : OV P n E H o v) (h0 : (gd ops E o, o.dst, Nat.blt d n) = (some true, some d, true)) (h : WK P n ops ks K ((d, v) :: E) H) : WK P n ops (k :: ks) K E H := by
  simp only [Prod.mk.injEq] at h0
  exact kv hk hv h0.1 h0.2.1 h0.2.2 h
theorem yp (hk : ops[k]? = some o) (hv : OP P n E o v) (h0 : (gd ops E o, o.dst, Nat.blt d n) = (some true, some d, true)) (h : WK P n ops ks K ((d, v) :: E) H) : WK P n ops (k :: ks) K E H := yv hk hv.ov h0 h
theorem ym (hk : ops[k]? = some o) (h0 : (o.op, gd ops E o, o.dst, Nat.blt d n) = (.move x, some true, some d, true)) (hx : ev E x = some v) (h : WK P n ops ks K ((d, v) :: E) H) : WK P n ops (k :: ks) K E H := by
  simp only [Prod.mk.injEq] at h0
  exact kp hk (v_mv h0.1 hx) h0.2.1 h0.2.2.1 h0.2.2.2 h
theorem yno (hk : ops[k]? = some o) (h0 : (gd ops E o, o.dst, Nat.blt d n) = (some false, some d, true)) (h : WK P n ops ks K ((d, undef) :: E) H) : WK P n ops (k :: ks) K E H := by
  simp only [Prod.mk.injEq] at h0
  exact kno hk h0.1 h0.2.1 h0.2.2 h
end
end Go.Proofs.YtpbahgddoamhgaaGreatDoor.Sx
namespace Go.Proofs.YtpbahgddoamhgaaGreatDoor.Sx
open Go

/-- l with ys written from p on -/
def put (l : List Value) (p : Nat) (ys : List Value) : List Value := l.take p ++ ys ++ l.drop (p + ys.length)
theorem put_length {l : List Value} {p : Nat} {ys : List Value} (h : p + ys.length ≤ l.length) : (put l p ys).length = l.length := by
  simp only [put, List.length_append, List.length_take, List.length_drop]; omega
theorem put_nil {l : List Value} {p : Nat} : put l p [] = l := by simp [put]
theorem put_cons {l : List Value} {p : Nat} {y : Value} {ys : List Value} (h : p < l.length) : put (l.set p y) (p + 1) ys = put l p (y :: ys) := by
  simp only [put]; rw [List.take_succ_eq_append_getElem (by simpa using h), List.getElem_set_self, List.take_set_of_le (Nat.le_refl p), List.drop_set_of_lt (by omega)]; simp [Nat.add_assoc, Nat.add_comm 1]

theorem run_storeCells {P : Program} {b p : Nat} {ty : TypeId} (ys : List Value) : ∀ (c : List Value) (i : Nat) (w : World), w.heap[b]? = some (.cells c.toArray ty (0, 0)) → (∀ y ∈ ys, one y = true) → p + i + ys.length ≤ c.length →
    ∃ w', (storeCells ⟨b, p, none⟩ ys i).run P w = .ok () w' ∧ w'.os = w.os ∧ w'.output = w.output ∧ (∀ k, k ≠ b → w'.heap[k]? = w.heap[k]?) ∧ w'.heap[b]? = some (.cells (put c (p + i) ys).toArray ty (0, 0)) := by
  induction ys with
  | nil => intro c i w hb _ _; exact ⟨w, by simp [storeCells], rfl, rfl, fun _ _ => rfl, by rw [put_nil]; exact hb⟩
  | cons y ys ih =>
    intro c i w hb hone hl; simp only [List.length_cons] at hl; have hlt : p + i < c.length := by omega
    have hcell : w.cell? ⟨b, p + i, none⟩ = some c[p + i] := by simp [World.cell?, hb, hlt]
    have hfz : w.frozen? ⟨b, p + i, none⟩ = false := by simp [World.frozen?, hb]
    have h1 := hone y (by simp); have hrun : (store ⟨b, p + i, none⟩ y).run P w = .ok () (w.setCell ⟨b, p + i, none⟩ y) := by
      cases y <;> first | (simp [one] at h1; done) | simp [store, Sem.run, hcell, hfz]
    have hb' : (w.setCell ⟨b, p + i, none⟩ y).heap[b]? = some (.cells (c.set (p + i) y).toArray ty (0, 0)) := by
      simp only [World.setCell, Array.getElem?_modify, if_true, hb, Option.map_some]; simp
    obtain ⟨w', h2, h3, h4, h5, h6⟩ := ih (c.set (p + i) y) (i + 1) _ hb' (fun y' hy => hone y' (by simp [hy])) (by simp; omega); refine ⟨w', ?_, h3, h4, fun k hk => ?_, ?_⟩
    · simp only [storeCells, Sem.run_bind, add_addr, hrun, Result.andThen_ok]; exact h2
    · rw [h5 k hk]; simp only [World.setCell, Array.getElem?_modify]; rw [if_neg (fun e => hk e.symm)]
    · rw [h6, ← Nat.add_assoc, put_cons hlt]

/-- so many elements of z cells each, that can be read -/
def Rd (z : Nat) (p : Option Addr) (ys : List Value) (m : Nat) (H : Hl) : Prop :=
  ys.length = m * z ∧ (m ≠ 0 → ∃ b off c ty fz r, p = some ⟨b, off, none⟩ ∧ AtH H b (.cells (List.toArray c) ty fz) r ∧ ∀ j, j < m * z → c[off + j]? = ys[j]?)
/-- a slice of one's own: nil, or the front of a block -/
def Own (z : Nat) (ty : TypeId) (v : Value) (xs : List Value) (m : Nat) (Hs : Hl) : Prop :=
  xs.length = m * z ∧ ((v = .slice none 0 0 ∧ m = 0 ∧ Hs = []) ∨ ∃ b rest cap, v = .slice (some ⟨b, 0, none⟩) m cap ∧ m ≤ cap ∧ rest.length = (cap - m) * z ∧ Hs = [(b, .cells (List.toArray (xs ++ rest)) ty (0, 0))])

section
variable {P : Program} {n : Nat} {E : El} {H : Hl} {o : Oper}

theorem run_firstCells {O w : World} {F : Hl} {z m cap : Nat} {p : Option Addr} {ys : List Value} (hp : Hp O w (H ++ F)) (hr : Rd z p ys m H) : (Builtin.firstCells z m (.slice p m cap)).run P w = .ok ys.toArray w := by
  obtain ⟨hl, hr⟩ := hr; by_cases hm : m = 0
  · subst hm; have : ys = [] := List.length_eq_zero_iff.1 (by simpa using hl); subst this
    cases p <;> simp [Builtin.firstCells, loadCells, loadCellsFrom]
  · obtain ⟨b, off, c, ty, fz, r, rfl, ha, hc⟩ := hr hm; simp only [Builtin.firstCells, loadCells]; rw [← hl, run_loadCellsFrom ys 0 #[] (fun j hj => by
      rw [Nat.add_zero, cell_of (v := ys[j]) hp ha (by rw [hc j (by omega)]; simp [hj])]; simp [hj])]
    simp

theorem growBy_le : ∀ (k need c : Nat), c ≤ 2 * need + 1000 → Builtin.growBy need k c ≤ 2 * need + 1000
  | 0, need, c, h => by simpa [Builtin.growBy] using h
  | k + 1, need, c, h => by
    simp only [Builtin.growBy]
    split
    · exact h
    · exact growBy_le k need _ (by omega)
theorem nextcap_le {need cap : Nat} (h : cap < need) : Builtin.nextslicecap need cap ≤ 2 * need + 1000 := by
  unfold Builtin.nextslicecap
  split
  · omega
  · split
    · omega
    · exact growBy_le 4 need cap (by omega)

theorem zeroCells_length (zs : Array Value) (k : Nat) : (Builtin.zeroCells zs k).toList.length = k * zs.size := by simp [Builtin.zeroCells]

/-- append to a slice of one's own -/
theorem v_app {t t' e e' : TypeId} {x y : Operand} {z bytes m k cap' : Nat} {zv v : Value} {py : Option Addr} {xs ys : List Value} {Hs H2 : Hl} {ti : TypeInfo}
    (ho : o.op = .call ⟨.builtin .append, #[x, y], #[t, t']⟩) (hu : P.underlying t = some (.slice e)) (hu' : P.underlying t' = some (.slice e')) (hz : ∀ w, (sizeOf e).run P w = .ok z w)
    (hti : ∀ w, (typeInfo e).run P w = .ok ti w) (hby : ti.bytes = bytes) (hzv : ∀ w, (zeroValue e).run P w = .ok zv w) (hzs : zv.cells.size = z)
    (hx : ev E x = some v) (hy : ev E y = some (.slice py k cap')) (hown : Own z e v xs m Hs) (hH : H = Hs ++ H2) (hrd : Rd z py ys k H) (hone : ∀ u ∈ ys, one u = true) (hlen : (2 * (m + k) + 1000) * bytes ≤ 2 ^ 48) (hlen2 : m + k < 2 ^ 62) :
    OS P n E H o (fun v' H' => ∃ Hs', Own z e v' (xs ++ ys) (m + k) Hs' ∧ H' = Hs' ++ H2) := fun O F a w hag hp => by
  subst hH; have hy' := ev_sound hag hy; have hx' := ev_sound hag hx; obtain ⟨hxl, hown⟩ := hown; have hyl := hrd.1; have hfy := run_firstCells (P := P) (cap := cap') hp hrd; have hsum : (xs ++ ys).length = (m + k) * z := by rw [List.length_append, hxl, hyl, Nat.add_mul]
  have room : ∀ cap, cap < m + k → ¬ Builtin.nextslicecap (m + k) cap * bytes > 2 ^ 48 := fun cap hc => by
    have := Nat.mul_le_mul_right bytes (nextcap_le hc); omega
  have big : ¬ (9223372036854775807 < ((m + k : Nat) : Int) ∧ bytes = 0) := by omega
  rcases hown with ⟨rfl, rfl, rfl⟩ | ⟨b, rest, cap, rfl, hmc, hrl, rfl⟩
  · -- nil
    have hxn : xs = [] := List.length_eq_zero_iff.1 (by simpa using hxl); subst hxn; by_cases hk : k = 0
    · subst hk; have hyn : ys = [] := List.length_eq_zero_iff.1 (by simpa using hyl); subst hyn; refine ⟨.slice none 0 0, w, H2, .inl ?_, ⟨[], ⟨by simp, .inl ⟨rfl, rfl, rfl⟩⟩, rfl⟩, hp⟩; simp [execOp, ho, hx', hy', resolve, invoke, builtin, Builtin.append_, underlying, hu, hu', hz, Builtin.lenOf, hfy]
    · have hneed : ¬ (0 + k ≤ 0) := by omega
      have hp1 : Hp O w.drew (([] : Hl) ++ H2 ++ F) := ⟨hp.os, hp.out, hp.nd, hp.has⟩; have hfy1 : (Builtin.firstCells z k (.slice py k cap')).run P w.drew = .ok ys.toArray w.drew := run_firstCells hp1 hrd; have hfx : (Builtin.firstCells z 0 (.slice none 0 0)).run P w.drew = .ok #[] w.drew := by simp [Builtin.firstCells]
      obtain ⟨nc, hnc, hge⟩ : ∃ nc, Question.cut (.appendCap k 0 e) (w.tape w.drawn (.appendCap k 0 e)) = nc ∧ k ≤ nc := ⟨_, rfl, by simp only [Question.cut]; omega⟩
      let cells : Array Value := ys.toArray ++ Builtin.zeroCells zv.cells (nc - k)
      refine ⟨.slice (some ⟨w.drew.heap.size, 0, none⟩) k nc, w.drew.alloc (.cells cells e), (w.drew.heap.size, .cells cells e) :: H2, .inl ?_, ⟨[(w.drew.heap.size, .cells cells e)], ⟨hsum, .inr ⟨w.drew.heap.size, (Builtin.zeroCells zv.cells (nc - k)).toList, nc, by simp, by omega, by rw [zeroCells_length, hzs, Nat.zero_add], by simp [cells]⟩⟩, rfl⟩, hp1.cons rfl⟩; have r0 := room 0 (by omega); simp only [Nat.zero_add] at r0 hneed big; simp [execOp, ho, hx', hy', resolve, invoke, builtin, Builtin.append_, underlying, hu, hu', hz, Builtin.lenOf, hk, hti, hby, r0, big, Question.forced, hnc, hzv, hfx, hfy1, newRow, cells]
  · by_cases hroom : m + k ≤ cap
    · have hb := (AtH.here (b := b) (o := .cells (List.toArray (xs ++ rest)) e (0, 0)) (H := H2)).has (F := F) (by simpa using hp); have hlen' : 0 + m * z + ys.length ≤ (xs ++ rest).length := by
        rw [List.length_append, hxl, hrl, hyl, Nat.zero_add, ← Nat.add_mul, ← Nat.add_mul]; exact Nat.mul_le_mul_right _ (by omega)
      obtain ⟨w', h2, h3, h4, h5, h6⟩ := run_storeCells (P := P) (b := b) (p := m * z) (ty := e) ys (xs ++ rest) 0 w hb hone (by omega); have hput : put (xs ++ rest) (m * z + 0) ys = (xs ++ ys) ++ rest.drop ys.length := by
        rw [Nat.add_zero, ← hxl]; simp [put, List.take_left', List.drop_append]
      rw [hput] at h6; refine ⟨.slice (some ⟨b, 0, none⟩) (m + k) cap, w', (b, .cells (List.toArray ((xs ++ ys) ++ rest.drop ys.length)) e (0, 0)) :: H2, .inl ?_, ⟨[(b, .cells (List.toArray ((xs ++ ys) ++ rest.drop ys.length)) e (0, 0))], ⟨hsum, .inr ⟨b, rest.drop ys.length, cap, rfl, hroom, ?_, rfl⟩⟩, rfl⟩, ?_⟩
      · simp [execOp, ho, hx', hy', resolve, invoke, builtin, Builtin.append_, underlying, hu, hu', hz, Builtin.lenOf, hroom, hfy, add_addr, h2]
      · rw [List.length_drop, hrl, hyl, ← Nat.sub_mul]; congr 1; omega
      · exact (AtH.here (b := b) (o := .cells (List.toArray (xs ++ rest)) e (0, 0)) (H := H2)).set (F := F) (by simpa using hp) h3 h4 h5 h6
    · have hcap : cap < m + k := by omega
      have hp1 : Hp O w.drew ([(b, .cells (List.toArray (xs ++ rest)) e (0, 0))] ++ H2 ++ F) := ⟨hp.os, hp.out, hp.nd, hp.has⟩; have hfy1 : (Builtin.firstCells z k (.slice py k cap')).run P w.drew = .ok ys.toArray w.drew := run_firstCells hp1 hrd; have hrx : Rd z (some ⟨b, 0, none⟩) xs m ([(b, .cells (List.toArray (xs ++ rest)) e (0, 0))] ++ H2) :=
        ⟨hxl, fun _ => ⟨b, 0, xs ++ rest, e, (0, 0), _, rfl, AtH.here, fun j hj => by rw [Nat.zero_add, List.getElem?_append_left (by omega)]⟩⟩
      have hfx : (Builtin.firstCells z m (.slice (some ⟨b, 0, none⟩) m cap)).run P w.drew = .ok xs.toArray w.drew := run_firstCells hp1 hrx; obtain ⟨nc, hnc, hge⟩ : ∃ nc, Question.cut (.appendCap (m + k) cap e) (w.tape w.drawn (.appendCap (m + k) cap e)) = nc ∧ m + k ≤ nc := ⟨_, rfl, by simp only [Question.cut]; omega⟩
      let cells : Array Value := xs.toArray ++ ys.toArray ++ Builtin.zeroCells zv.cells (nc - (m + k))
      have hp2 : Hp O w.drew (H2 ++ F) := by
        refine ⟨hp.os, hp.out, (List.nodup_cons.1 (by simpa using hp.nd : (b :: (H2 ++ F).map Prod.fst).Nodup)).2, fun q hq => hp.has q (by simp at hq ⊢; exact .inr hq)⟩
      refine ⟨.slice (some ⟨w.drew.heap.size, 0, none⟩) (m + k) nc, w.drew.alloc (.cells cells e), (w.drew.heap.size, .cells cells e) :: H2, .inl ?_, ⟨[(w.drew.heap.size, .cells cells e)], ⟨hsum, .inr ⟨w.drew.heap.size, (Builtin.zeroCells zv.cells (nc - (m + k))).toList, nc, rfl, hge, by rw [zeroCells_length, hzs], by simp [cells]⟩⟩, rfl⟩, hp2.cons rfl⟩; have r0 := room cap hcap; simp [execOp, ho, hx', hy', resolve, invoke, builtin, Builtin.append_, underlying, hu, hu', hz, Builtin.lenOf, hroom, hti, hby, r0, Question.forced, hnc, hzv, hfx, hfy1, newRow, cells]; intro h1 h2
      exfalso
      omega
end
end Go.Proofs.YtpbahgddoamhgaaGreatDoor.Sx
namespace Go.Proofs.YtpbahgddoamhgaaGreatDoor.Sx
open Go

inductive Bd (E : El) : Option Operand → Nat → Nat → Prop
  | none {d : Nat} : Bd E none d d
  | some {x : Operand} {k : IntKind} {i : Int} {j d : Nat} (hx : ev E x = some (.int k i)) [hi : NO i j] : Bd E (some x) d j

section
variable {P : Program} {n : Nat} {E : El} {H : Hl} {o : Oper}

theorem sliceBound_run {k : IntKind} {j y : Nat} {c : BoundsCode} {w : World} (h : j ≤ y) : (Instr.sliceBound (.int k (j : Nat)) y c).run P w = .ok j w := by
  simp [Instr.sliceBound, asIntOf, h]
theorem bounds_run {a : Act} {w : World} (ha : Ag n a E) {b : Bool} {lo hi mx : Option Operand} {len cap l h m : Nat} (hm : Bd E mx cap m) (hh : Bd E hi len h) (hl : Bd E lo 0 l) (h1 : m ≤ cap) (h2 : h ≤ m) (h3 : l ≤ h) (hx : hi = none → mx = none) :
    (Instr.sliceBounds b len cap (lo.map a.eval) (hi.map a.eval) (mx.map a.eval)).run P w = .ok (l, h, m) w := by
  cases hm with
  | none =>
    cases hh with
    | none =>
      cases hl with
      | none => simp [Instr.sliceBounds]
      | @some _ _ _ _ _ hx hi => rw [hi.h] at hx; simp [Instr.sliceBounds, ev_sound ha hx, sliceBound_run h3]
    | @some _ _ _ _ _ hx1 hi1 =>
      rw [hi1.h] at hx1
      cases hl with
      | none => simp [Instr.sliceBounds, ev_sound ha hx1, sliceBound_run h2]
      | @some _ _ _ _ _ hx hi => rw [hi.h] at hx; simp [Instr.sliceBounds, ev_sound ha hx, ev_sound ha hx1, sliceBound_run h3, sliceBound_run h2]
  | @some _ _ _ _ _ hx2 hi2 =>
    rw [hi2.h] at hx2
    cases hh with
    | none => simp at hx
    | @some _ _ _ _ _ hx1 hi1 =>
      rw [hi1.h] at hx1
      cases hl with
      | none => simp [Instr.sliceBounds, ev_sound ha hx1, ev_sound ha hx2, sliceBound_run h2, sliceBound_run h1]
      | @some _ _ _ _ _ hx hi => rw [hi.h] at hx; simp [Instr.sliceBounds, ev_sound ha hx, ev_sound ha hx1, ev_sound ha hx2, sliceBound_run h3, sliceBound_run h2, sliceBound_run h1]

/-- where a part of a slice begins -/
def pmv (p : Option Addr) (m l z : Nat) : Option Addr := if m = l then p else p.map (·.add (l * z))
theorem pmv_some (b o m l z : Nat) : pmv (some ⟨b, o, none⟩) m l z = some ⟨b, if m = l then o else o + l * z, none⟩ := by
  unfold pmv; split <;> simp [add_addr]
theorem v_slp {t e : TypeId} {x : Operand} {lo hi mx : Option Operand} {p : Option Addr} {len cap l h m z : Nat} (ho : o.op = .slice t x lo hi mx) (hu : P.underlying t = some (.slice e)) (hz : ∀ w, (sizeOf e).run P w = .ok z w)
    (hx : ev E x = some (.slice p len cap)) (hm : Bd E mx cap m) (hh : Bd E hi len h) (hl : Bd E lo 0 l) (h1 : m ≤ cap) (h2 : h ≤ m) (h3 : l ≤ h) (hn : hi = none → mx = none) : OP P n E o (.slice (pmv p m l z) (h - l) (m - l)) := fun a w ha => by
  simp [execOp, ho, ev_sound ha hx, Instr.sliceAt, underlying, hu, Instr.slice, bounds_run ha hm hh hl h1 h2 h3 hn, hz, pmv]
/-- a part of an array behind a pointer -/
theorem v_sla {t e : TypeId} {x : Operand} {lo hi mx : Option Operand} {b q len l h m z : Nat} (ho : o.op = .slice t x lo hi mx) (hu : P.underlying t = some (.array len e)) (hz : ∀ w, (sizeOf e).run P w = .ok z w)
    (hx : ev E x = some (.pointer (some ⟨b, q, none⟩))) (hm : Bd E mx len m) (hh : Bd E hi len h) (hl : Bd E lo 0 l) (h1 : m ≤ len) (h2 : h ≤ m) (h3 : l ≤ h) (hn : hi = none → mx = none) : OP P n E o (.slice (pmv (some ⟨b, q, none⟩) m l z) (h - l) (m - l)) := fun a w ha => by
  have : (fun f : Addr => if m = l then f else f.add (l * z)) ⟨b, q, none⟩ = (if m = l then (⟨b, q, none⟩ : Addr) else Addr.add ⟨b, q, none⟩ (l * z)) := rfl; simp [execOp, ho, ev_sound ha hx, Instr.sliceAt, underlying, hu, bounds_run ha hm hh hl h1 h2 h3 hn, hz, pmv, Instr.sureAddr]
  split <;> rfl

/-- a new row of zeros -/
theorem v_mk {t e : TypeId} {x y : Operand} {len z : Nat} {k k' : IntKind} {i : Int} {zv : Value} {ti : TypeInfo} {bytes : Nat} (ho : o.op = .makeSlice t x y) (hu : P.underlying t = some (.slice e)) (hz : ∀ w, (sizeOf e).run P w = .ok z w)
    (hti : ∀ w, (typeInfo e).run P w = .ok ti w) (hby : ti.bytes = bytes) (hzv : ∀ w, (zeroValue e).run P w = .ok zv w) (hx : ev E x = some (.int k i)) (hy : ev E y = some (.int k' i)) [hi : NO i len] (hl : len < 2 ^ 62) (hb : bytes * len ≤ 2 ^ 48) (hzs : zv.cells = #[zv]) (hz1 : z = 1) :
    OS P n E H o (fun v H' => ∃ b, v = .slice (some ⟨b, 0, none⟩) len len ∧ H' = (b, .cells (List.replicate len zv).toArray e) :: H ∧ ∀ p ∈ H, p.1 ≠ b) := fun O F a w hag hp => by
  have hxi : i = (len : Int) := hi.h; subst hxi hz1; have hw : IntKind.i64.wrap (len : Int) = (len : Int) := kI.w _ (by omega); have hc : ((Array.range len).map fun j => (#[zv] : Array Value)[j % (#[zv] : Array Value).size]!) = (List.replicate len zv).toArray := by
    rw [← Array.toList_inj]; apply List.ext_getElem
    · simp
    · intro j h1 h2; simp [Nat.mod_one]
  refine ⟨_, w.alloc (.cells (List.replicate len zv).toArray e), _, .inl ?_, ⟨w.heap.size, rfl, rfl, hp.fresh⟩, hp.cons rfl⟩; have hb1 : ¬ (281474976710656 < (bytes : Int) * (len : Int)) := by
    have : (bytes : Int) * (len : Int) = ((bytes * len : Nat) : Int) := by norm_cast
    rw [this]; omega
  have hb2 : ¬ ((len : Int) < 0) := by omega
  by_cases h0 : len = 0
  · subst h0; have hw0 : IntKind.i64.wrap 0 = 0 := by decide
    simp [execOp, ho, ev_sound hag hx, ev_sound hag hy, Instr.makeSlice, underlying, hu, hti, hz, asInt, asIntOf, newRow, hw0]; have h9 : Array.map (fun _ : Nat => (default : Value)) (Array.range 0) = #[] := by rw [← Array.toList_inj]; simp
    rw [h9]
  · simp [execOp, ho, ev_sound hag hx, ev_sound hag hy, Instr.makeSlice, underlying, hu, hti, hby, hz, asInt, asIntOf, hw, newRow, hb1, hb2, h0, hzv, hzs]; simpa using congrArg (fun q => w.alloc (.cells q e)) hc

/-- a new row that is reckoned by the kernel -/
theorem v_bs (c : Array Value) (e : TypeId) (len : Nat) (hall : o.op.operands.toList.all (fun x => (ev E x).isSome) = true) (hs : noSel o.op = true)
    (hf : ∀ w, (execOp (evd E) o).run P w = .ok (.value (.slice (some ⟨w.heap.size, 0, none⟩) len len)) (w.alloc (.cells c e))) :
    OS P n E H o (fun v H' => ∃ b, v = .slice (some ⟨b, 0, none⟩) len len ∧ H' = (b, .cells c e) :: H ∧ ∀ p ∈ H, p.1 ≠ b) := fun O F a w hag hp =>
  ⟨_, _, _, .inl (by rw [evd_eq hag hall (noSel_spec hs)]; exact hf w), ⟨w.heap.size, rfl, rfl, hp.fresh⟩, hp.cons rfl⟩

/-- copy -/
theorem v_cp {t e : TypeId} {ts : Array TypeId} {x y : Operand} {b q dlen dcap slen scap z k : Nat} {py : Option Addr} {c ys : List Value} {ty : TypeId} {r : Obj → Hl}
    (ho : o.op = .call ⟨.builtin .copy, #[x, y], ts⟩) (ht : ts[0]? = some t) (hu : P.underlying t = some (.slice e)) (hz : ∀ w, (sizeOf e).run P w = .ok z w) (hx : ev E x = some (.slice (some ⟨b, q, none⟩) dlen dcap)) (hy : ev E y = some (.slice py slen scap))
    [ha : AtH H b (.cells c.toArray ty (0, 0)) r] (hk : min slen dlen = k) (hrd : Rd z py ys k H) (hone : ∀ u ∈ ys, one u = true) (hl : q + k * z ≤ c.length) :
    OS P n E H o (fun v H' => v = .int .i64 (k : Nat) ∧ H' = r (.cells (put c q ys).toArray ty (0, 0))) := fun O F a w hag hp => by
  have hb := ha.has hp; obtain ⟨w', h2, h3, h4, h5, h6⟩ := run_storeCells (P := P) (b := b) (p := q) (ty := ty) ys c 0 w hb hone (by rw [hrd.1]; omega); refine ⟨.int .i64 (k : Nat), w', _, .inl ?_, ⟨rfl, rfl⟩, ha.set hp h3 h4 h5 h6⟩; have hmin : Nat.min slen dlen = k := hk; have hfy : (Builtin.firstCells z k (.slice py slen scap)).run P w = .ok ys.toArray w := by
    have := run_firstCells (P := P) (cap := scap) hp hrd
    revert this
    cases py <;> simp [Builtin.firstCells]
  simp [execOp, ho, ht, ev_sound hag hx, ev_sound hag hy, resolve, invoke, builtin, Builtin.copy_, underlying, hu, hz, Builtin.lenOf, hmin, hfy, h2, goInt]
/-- copy onto nothing -/
theorem v_cpn {t e : TypeId} {ts : Array TypeId} {x y : Operand} {dcap slen scap z : Nat} {px py : Option Addr}
    (ho : o.op = .call ⟨.builtin .copy, #[x, y], ts⟩) (ht : ts[0]? = some t) (hu : P.underlying t = some (.slice e)) (hz : ∀ w, (sizeOf e).run P w = .ok z w) (hx : ev E x = some (.slice px 0 dcap)) (hy : ev E y = some (.slice py slen scap)) :
    OV P n E H o (.int .i64 (0 : Nat)) := fun O F a w hag hp => by
  have hfy : (Builtin.firstCells z 0 (.slice py slen scap)).run P w = .ok #[] w := by
    cases py <;> simp [Builtin.firstCells, loadCells, loadCellsFrom]
  cases px <;> simp [execOp, ho, ht, ev_sound hag hx, ev_sound hag hy, resolve, invoke, builtin, Builtin.copy_, underlying, hu, hz, Builtin.lenOf, hfy, storeCells, goInt]
theorem v_cps {t e : TypeId} {ts : Array TypeId} {x y : Operand} {dlen dcap scap z : Nat} {px py : Option Addr}
    (ho : o.op = .call ⟨.builtin .copy, #[x, y], ts⟩) (ht : ts[0]? = some t) (hu : P.underlying t = some (.slice e)) (hz : ∀ w, (sizeOf e).run P w = .ok z w) (hx : ev E x = some (.slice px dlen dcap)) (hy : ev E y = some (.slice py 0 scap)) :
    OV P n E H o (.int .i64 (0 : Nat)) := fun O F a w hag hp => by
  have hfy : (Builtin.firstCells z 0 (.slice py 0 scap)).run P w = .ok #[] w := by
    cases py <;> simp [Builtin.firstCells, loadCells, loadCellsFrom]
  cases px <;> simp [execOp, ho, ht, ev_sound hag hx, ev_sound hag hy, resolve, invoke, builtin, Builtin.copy_, underlying, hu, hz, Builtin.lenOf, hfy, storeCells, goInt]
end
end Go.Proofs.YtpbahgddoamhgaaGreatDoor.Sx
namespace Go.Proofs.YtpbahgddoamhgaaGreatDoor.Sx
open Go
theorem or_add {a c s : Nat} (h : a < 2 ^ s) : a ||| c * 2 ^ s = a + c * 2 ^ s := by
  rw [Nat.mul_comm, Nat.or_comm, ← Nat.two_pow_add_eq_or_of_lt h]; omega
theorem n_oradd {P : Program} {n : Nat} {E : El} {o : Oper} {t t' : TypeId} {x y : Operand} {k : IntKind} {a c s M : Nat} {i j : Int} (ho : o.op = .binOp .or t x y t') (hx : ev E x = some (.int k i)) (hy : ev E y = some (.int k j)) [hi : NO i a] [hj : NO j (c * 2 ^ s)] (K : Kd k M) (h : a < M) (h2 : c * 2 ^ s < M) (h3 : a < 2 ^ s) :
    OP P n E o (.int k (a + c * 2 ^ s : Nat)) := by
  have := n_or (P := P) (n := n) ho hx hy K h h2; rw [or_add h3] at this; exact this
end Go.Proofs.YtpbahgddoamhgaaGreatDoor.Sx
namespace Go.Proofs.YtpbahgddoamhgaaGreatDoor.Sx
open Go
abbrev bV (x : Nat) : Value := .int .u8 (x : Nat)
abbrev iV (x : Nat) : Value := .int .i64 (x : Nat)
/-- what lies at p reads as the list L, out of the blocks D -/
def DatV (f : Nat → Value) (p : Option Addr) (L : List Nat) (D : Hl) : Prop :=
  L ≠ [] → ∃ b off c ty fz r, p = some ⟨b, off, none⟩ ∧ AtH D b (.cells (List.toArray c) ty fz) r ∧ ∀ i (h : i < L.length), c[off + i]? = some (f L[i])
abbrev Dat (p : Option Addr) (B : List Nat) (D : Hl) : Prop := DatV bV p B D
abbrev DatI (p : Option Addr) (L : List Nat) (D : Hl) : Prop := DatV iV p L D
theorem DatV.cons {f : Nat → Value} {p : Option Addr} {L : List Nat} {D : Hl} (h : DatV f p L D) (x : Nat × Obj) : DatV f p L (x :: D) := fun hne => by
  obtain ⟨b, off, c, ty, fz, r, h1, h2, h3⟩ := h hne; exact ⟨b, off, c, ty, fz, _, h1, AtH.there, h3⟩
instance AtH.app {H D : Hl} {b : Nat} {o : Obj} {r : Obj → Hl} [h : AtH D b o r] : AtH (H ++ D) b o (fun o' => H ++ r o') := by
  obtain ⟨A, B, h1, h2⟩ := h.look; exact ⟨H ++ A, B, by rw [h1, List.append_assoc], by rw [h2]; funext o'; rw [List.append_assoc]⟩
theorem AtH.appl {H D : Hl} {b : Nat} {o : Obj} {r : Obj → Hl} (h : AtH H b o r) : AtH (H ++ D) b o (fun o' => r o' ++ D) := by
  obtain ⟨A, B, h1, h2⟩ := h.look; exact ⟨A, B ++ D, by rw [h1]; simp, by rw [h2]; funext o'; simp⟩
theorem DatV.app {f : Nat → Value} {p : Option Addr} {L : List Nat} {D : Hl} (h : DatV f p L D) (H : Hl) : DatV f p L (H ++ D) := fun hne => by
  obtain ⟨b, off, c, ty, fz, r, h1, h2, h3⟩ := h hne; exact ⟨b, off, c, ty, fz, _, h1, AtH.app, h3⟩
theorem DatV.appl {f : Nat → Value} {p : Option Addr} {L : List Nat} {D : Hl} (h : DatV f p L D) (H : Hl) : DatV f p L (D ++ H) := fun hne => by
  obtain ⟨b, off, c, ty, fz, r, h1, h2, h3⟩ := h hne; exact ⟨b, off, c, ty, fz, _, h1, h2.appl, h3⟩
theorem DatV.rd {f : Nat → Value} {p : Option Addr} {L : List Nat} {D : Hl} (h : DatV f p L D) : Rd 1 p (L.map f) L.length D := by
  refine ⟨by simp, fun hne => ?_⟩; have hL : L ≠ [] := by intro e; subst e; simp at hne
  obtain ⟨b, off, c, ty, fz, r, h1, h2, h3⟩ := h hL; exact ⟨b, off, c, ty, fz, r, h1, h2, fun j hj => by
    have hj' : j < L.length := by omega
    rw [h3 j hj']; simp [hj']⟩
/-- a part of it -/
theorem DatV.sub {f : Nat → Value} {p : Option Addr} {L : List Nat} {D : Hl} (h : DatV f p L D) {l u m : Nat} (hu : u ≤ L.length) (hm : u ≤ m) : DatV f (pmv p m l 1) ((L.take u).drop l) D := fun hne => by
  have hlu : l < u := by
    rcases Nat.lt_or_ge l u with h1 | h1
    · exact h1
    · exact absurd (List.drop_eq_nil_of_le (by simp; omega)) hne
  have hL : L ≠ [] := by intro e; subst e; simp at hne
  obtain ⟨b, off, c, ty, fz, r, h1, h2, h3⟩ := h hL; refine ⟨b, off + l, c, ty, fz, r, ?_, h2, fun i hi => ?_⟩
  · rw [h1, pmv_some, if_neg (by omega), Nat.mul_one]
  · simp only [List.length_drop, List.length_take] at hi; rw [Nat.add_assoc, h3 (l + i) (by omega)]; simp
/-- an owned slice reads as what it holds -/
theorem datV_own {f : Nat → Value} {b : Nat} {L : List Nat} {rest : List Value} {ty : TypeId} {fz : Nat × Nat} {D : Hl} : DatV f (some ⟨b, 0, none⟩) L ((b, .cells (List.toArray (L.map f ++ rest)) ty fz) :: D) := fun _ =>
  ⟨b, 0, _, ty, fz, _, rfl, AtH.here, fun i h => by rw [Nat.zero_add, List.getElem?_append_left (by simpa using h)]; simp [h]⟩
theorem datV_row {f : Nat → Value} {b : Nat} {L : List Nat} {ty : TypeId} {fz : Nat × Nat} {D : Hl} : DatV f (some ⟨b, 0, none⟩) L ((b, .cells (List.toArray (L.map f)) ty fz) :: D) := fun _ =>
  ⟨b, 0, _, ty, fz, _, rfl, AtH.here, fun i h => by rw [Nat.zero_add]; simp [h]⟩
end Go.Proofs.YtpbahgddoamhgaaGreatDoor.Sx
namespace Go.Proofs.YtpbahgddoamhgaaGreatDoor.Pu

def lenBase (s : Nat) : Nat := if s - 257 < 8 then 3 + (s - 257) else if s - 257 = 28 then 258 else 3 + (4 + (s - 257) % 4) * 2 ^ ((s - 257) / 4 - 1)
def lenExtra (s : Nat) : Nat := if s - 257 < 8 then 0 else if s - 257 = 28 then 0 else (s - 257) / 4 - 1
def distBase (s : Nat) : Nat := if s < 4 then 1 + s else 1 + (2 + s % 2) * 2 ^ (s / 2 - 1)
def distExtra (s : Nat) : Nat := if s < 4 then 0 else s / 2 - 1

/-- the reader of bits: its place, and whether it failed -/
structure RS where
  at_ : Nat
  fail : Bool

/-- the bit at a place -/
def bitAt (B : List Nat) (p : Nat) : Nat := B.getD (p / 8) 0 / 2 ^ (p % 8) % 2
def rbit (B : List Nat) (s : RS) : Nat × RS :=
  if s.fail = true then (0, ⟨s.at_, true⟩) else if 8 * B.length ≤ s.at_ then (0, ⟨s.at_, true⟩) else (bitAt B s.at_, ⟨s.at_ + 1, false⟩)
def rbits (B : List Nat) : Nat → RS → Nat × RS
  | 0, s => (0, s)
  | k + 1, s => ((rbits B k s).1 + (rbit B (rbits B k s).2).1 * 2 ^ k, (rbit B (rbits B k s).2).2)

theorem bitAt_lt (B : List Nat) (p : Nat) : bitAt B p < 2 := Nat.mod_lt _ (by decide)
theorem rbit_lt (B : List Nat) (s : RS) : (rbit B s).1 < 2 := by
  unfold rbit; split
  · exact Nat.zero_lt_two
  · split
    · exact Nat.zero_lt_two
    · exact bitAt_lt _ _
theorem rbits_lt (B : List Nat) (k : Nat) (s : RS) : (rbits B k s).1 < 2 ^ k := by
  induction k with
  | zero => simp [rbits]
  | succ k ih =>
    simp only [rbits]; have := rbit_lt B (rbits B k s).2; have h2 : (rbit B (rbits B k s).2).1 * 2 ^ k ≤ 1 * 2 ^ k := Nat.mul_le_mul_right _ (by omega); rw [Nat.pow_succ]; omega
theorem rbit_le {B : List Nat} {s : RS} (h : s.at_ ≤ 8 * B.length) : (rbit B s).2.at_ ≤ 8 * B.length := by
  unfold rbit; split
  · exact h
  · split
    · exact h
    · simp only; omega
theorem rbits_le {B : List Nat} {s : RS} (k : Nat) (h : s.at_ ≤ 8 * B.length) : (rbits B k s).2.at_ ≤ 8 * B.length := by
  induction k with
  | zero => exact h
  | succ k ih => exact rbit_le ih
def ralign (s : RS) : RS := ⟨(s.at_ + 7) / 8 * 8, s.fail⟩
end Go.Proofs.YtpbahgddoamhgaaGreatDoor.Pu
namespace Go.Proofs.YtpbahgddoamhgaaGreatDoor.Pu

/-- how many of the first k lengths are l -/
def rank (L : List Nat) (l : Nat) : Nat → Nat
  | 0 => 0
  | k + 1 => rank L l k + if L.getD k 0 = l then 1 else 0
theorem rank_le (L : List Nat) (l k : Nat) : rank L l k ≤ k := by
  induction k with
  | zero => exact Nat.le_refl _
  | succ k ih => simp only [rank]; split <;> omega
theorem rank_mono (L : List Nat) (l : Nat) {j k : Nat} (h : j ≤ k) : rank L l j ≤ rank L l k := by
  induction k with
  | zero => simp_all
  | succ k ih =>
    rcases Nat.lt_or_ge k j with h1 | h1
    · have : j = k + 1 := by omega
      subst this; exact Nat.le_refl _
    · have := ih h1; simp only [rank]; omega
theorem rank_lt (L : List Nat) {l j k : Nat} (h : j < k) (hj : L.getD j 0 = l) : rank L l j < rank L l k := by
  have := rank_mono L l (show j + 1 ≤ k by omega); simp only [rank, hj, if_true] at this; omega

def cin (L : List Nat) (l : Nat) : Nat → List Nat × Nat → List Nat × Nat
  | 0, x => x
  | k + 1, x => if L.getD k 0 = l then ((cin L l k x).1.set k (cin L l k x).2, (cin L l k x).2 + 1) else cin L l k x
def cou (L : List Nat) : Nat → List Nat × Nat
  | 0 => (List.replicate L.length 0, 0)
  | j + 1 => cin L (j + 1) L.length ((cou L j).1, (cou L j).2 * 2)

/-- the next number behind the codes of lengths up to j -/
def cn (L : List Nat) : Nat → Nat
  | 0 => 0
  | j + 1 => cn L j * 2 + rank L (j + 1) L.length
def codeOf (L : List Nat) (k : Nat) : Nat := if 1 ≤ L.getD k 0 ∧ L.getD k 0 ≤ 15 then cn L (L.getD k 0 - 1) * 2 + rank L (L.getD k 0) k else 0
def codesL (L : List Nat) : List Nat := (List.range L.length).map (codeOf L)

theorem cin_snd (L : List Nat) (l k : Nat) (x : List Nat × Nat) : (cin L l k x).2 = x.2 + rank L l k := by
  induction k with
  | zero => rfl
  | succ k ih => simp only [cin, rank]; split <;> simp [ih]; omega
theorem cou_snd (L : List Nat) (j : Nat) : (cou L j).2 = cn L j := by
  cases j with
  | zero => rfl
  | succ j => simp only [cou, cn, cin_snd, cou_snd L j]
theorem cin_len (L : List Nat) (l k : Nat) (x : List Nat × Nat) : (cin L l k x).1.length = x.1.length := by
  induction k with
  | zero => rfl
  | succ k ih => simp only [cin]; split <;> simp [ih]
theorem cou_len (L : List Nat) (j : Nat) : (cou L j).1.length = L.length := by
  cases j with
  | zero => simp [cou]
  | succ j => simp only [cou, cin_len, cou_len L j]
theorem cn_le (L : List Nat) (j : Nat) : cn L j + L.length ≤ L.length * 2 ^ j := by
  induction j with
  | zero => simp [cn]
  | succ j ih =>
    have := rank_le L (j + 1) L.length; have e : L.length * 2 ^ (j + 1) = 2 * (L.length * 2 ^ j) := by rw [Nat.pow_succ, ← Nat.mul_assoc, Nat.mul_comm]
    simp only [cn]; omega
theorem cin_get (L : List Nat) (l : Nat) (x : List Nat × Nat) (i : Nat) (hi : i < x.1.length) : ∀ k, (cin L l k x).1.getD i 0 = if i < k ∧ L.getD i 0 = l then x.2 + rank L l i else x.1.getD i 0
  | 0 => by simp [cin]
  | k + 1 => by
    have ih := cin_get L l x i hi k; simp only [cin]
    split
    · rename_i hk; simp only; by_cases hik : i = k
      · subst hik; have : i < (cin L l i x).1.length := by rw [cin_len]; exact hi
        rw [if_pos ⟨by omega, hk⟩]; simp [List.getD_eq_getElem?_getD, this, cin_snd]
      · rw [show ((cin L l k x).1.set k (cin L l k x).2).getD i 0 = (cin L l k x).1.getD i 0 by
          simp only [List.getD_eq_getElem?_getD]; rw [List.getElem?_set_ne (fun e => hik e.symm)], ih]
        by_cases h : i < k ∧ L.getD i 0 = l
        · rw [if_pos h, if_pos ⟨by omega, h.2⟩]
        · rw [if_neg h, if_neg (fun h' => h ⟨by omega, h'.2⟩)]
    · rename_i hk; rw [ih]; by_cases h : i < k ∧ L.getD i 0 = l
      · rw [if_pos h, if_pos ⟨by omega, h.2⟩]
      · rw [if_neg h, if_neg (fun h' => h ⟨by
          rcases Nat.lt_or_ge i k with h1 | h1
          · exact h1
          · have : i = k := by omega
            subst this; exact absurd h'.2 hk, h'.2⟩)]
theorem cou_get (L : List Nat) (i : Nat) (hi : i < L.length) : ∀ j, (cou L j).1.getD i 0 = if 1 ≤ L.getD i 0 ∧ L.getD i 0 ≤ j then cn L (L.getD i 0 - 1) * 2 + rank L (L.getD i 0) i else 0
  | 0 => by
    have : ¬ (1 ≤ L.getD i 0 ∧ L.getD i 0 ≤ 0) := by omega
    rw [if_neg this]; simp [cou, List.getD_eq_getElem?_getD, hi]
  | j + 1 => by
    simp only [cou]; rw [cin_get L (j + 1) _ i (by simpa [cou_len] using hi), cou_get L i hi j]; simp only [cou_snd]; by_cases h : L.getD i 0 = j + 1
    · rw [if_pos ⟨hi, h⟩, if_pos (by omega), h]; simp
    · rw [if_neg (fun h' => h h'.2)]; by_cases h2 : 1 ≤ L.getD i 0 ∧ L.getD i 0 ≤ j
      · rw [if_pos h2, if_pos (by omega)]
      · rw [if_neg h2, if_neg (by omega)]
theorem cou_codes (L : List Nat) : (cou L 15).1 = codesL L := by
  apply List.ext_getElem
  · rw [cou_len]; simp [codesL]
  · intro i h1 h2; have hi : i < L.length := by rw [cou_len] at h1; exact h1
    have := cou_get L i hi 15; simp only [List.getD_eq_getElem?_getD, List.getElem?_eq_getElem h1, Option.getD_some] at this; rw [this]; simp [codesL, codeOf]
theorem codeOf_lt (L : List Nat) {i k : Nat} (h : i < k) (e : L.getD i 0 = L.getD k 0) (h1 : 1 ≤ L.getD k 0) (h2 : L.getD k 0 ≤ 15) : codeOf L i < codeOf L k := by
  simp only [codeOf, e, h1, h2, and_self, if_true]; have := rank_lt L h e; omega

/-- the sums that decide whether a code is complete -/
def ksum (L : List Nat) : Nat → Nat
  | 0 => 0
  | k + 1 => if 0 < L.getD k 0 then ksum L k + 2 ^ (15 - L.getD k 0) else ksum L k
def kmany (L : List Nat) : Nat → Nat
  | 0 => 0
  | k + 1 => if 0 < L.getD k 0 then kmany L k + 1 else kmany L k
def kones (L : List Nat) : Nat → Nat
  | 0 => 0
  | k + 1 => if L.getD k 0 = 1 then kones L k + 1 else kones L k
theorem pow15 (x : Nat) : 2 ^ (15 - x) ≤ 32768 := Nat.pow_le_pow_right (n := 2) (by decide) (Nat.sub_le 15 x)
theorem ksum_le (L : List Nat) (k : Nat) : ksum L k ≤ 32768 * k := by
  induction k with
  | zero => simp [ksum]
  | succ k ih =>
    have h := pow15 (L.getD k 0); simp only [ksum]; generalize 2 ^ (15 - L.getD k 0) = z at h ⊢
    split <;> omega
theorem kmany_le (L : List Nat) (k : Nat) : kmany L k ≤ k := by
  induction k with
  | zero => simp [kmany]
  | succ k ih => simp only [kmany]; split <;> omega
theorem kones_le (L : List Nat) (k : Nat) : kones L k ≤ k := by
  induction k with
  | zero => simp [kones]
  | succ k ih => simp only [kones]; split <;> omega
def okCode (L : List Nat) : Bool := decide (ksum L L.length = 32768) || (decide (kmany L L.length = 0) || (decide (kmany L L.length = 1) && decide (kones L L.length = 1)))

abbrev Ents := List (Nat × Nat × Nat)
def ents (L : List Nat) : Nat → Ents
  | 0 => []
  | k + 1 => if 0 < L.getD k 0 then ents L k ++ [(L.getD k 0, codeOf L k, k)] else ents L k
theorem ents_mem {L : List Nat} {k : Nat} {x : Nat × Nat × Nat} (h : x ∈ ents L k) : x.2.2 < k ∧ x.1 = L.getD x.2.2 0 ∧ x.2.1 = codeOf L x.2.2 ∧ 0 < x.1 := by
  induction k with
  | zero => simp [ents] at h
  | succ k ih =>
    simp only [ents] at h
    split at h
    · rename_i hk; rcases List.mem_append.1 h with h | h
      · obtain ⟨h1, h2⟩ := ih h; exact ⟨by omega, h2⟩
      · have : x = (L.getD k 0, codeOf L k, k) := by simpa using h
        subst this; exact ⟨by simp, rfl, rfl, hk⟩
    · obtain ⟨h1, h2⟩ := ih h; exact ⟨by omega, h2⟩
theorem mem_ents {L : List Nat} {k s : Nat} (h : s < k) (h0 : 0 < L.getD s 0) : (L.getD s 0, codeOf L s, s) ∈ ents L k := by
  induction k with
  | zero => omega
  | succ k ih =>
    simp only [ents]; by_cases hs : s = k
    · subst hs; rw [if_pos h0]; simp
    · have := ih (by omega)
      split
      · exact List.mem_append_left _ this
      · exact this
def lkup (l : Ents) (a b : Nat) : Option Nat := match l with
  | [] => none
  | x :: l => if a = x.1 ∧ b = x.2.1 then some x.2.2 else lkup l a b
theorem lkup_some {l : Ents} {a b s : Nat} (h : lkup l a b = some s) : (a, b, s) ∈ l := by
  induction l with
  | nil => simp [lkup] at h
  | cons x l ih =>
    simp only [lkup] at h
    split at h
    · rename_i hx; have : x = (a, b, s) := by obtain ⟨x1, x2, x3⟩ := x; simp_all
      simp [this]
    · simp [ih h]
theorem lkup_none {l : Ents} {a b : Nat} (h : lkup l a b = none) : ∀ s, (a, b, s) ∉ l := by
  induction l with
  | nil => simp
  | cons x l ih =>
    simp only [lkup] at h
    split at h
    · cases h
    · rename_i hx; intro s hm; rcases List.mem_cons.1 hm with hm | hm
      · subst hm; exact hx ⟨rfl, rfl⟩
      · exact ih h s hm
theorem lkup_new {L : List Nat} {k : Nat} (h : 0 < L.getD k 0) (h2 : L.getD k 0 ≤ 15) : lkup (ents L k) (L.getD k 0) (codeOf L k) = none := by
  cases hl : lkup (ents L k) (L.getD k 0) (codeOf L k) with
  | none => rfl
  | some s =>
    exfalso
    obtain ⟨h1, h3, h4, _⟩ := ents_mem (lkup_some hl); simp only at h1 h3 h4; have := codeOf_lt L h1 h3.symm h h2; omega

/-- reading a symbol: so many lengths are left, the length, the number so far -/
def symF (B : List Nat) (l : Ents) : Nat → Nat → Nat → RS → Nat × RS
  | 0, _, _, s => (0, ⟨s.at_, true⟩)
  | k + 1, long, n, s =>
    match lkup l long (2 * n + (rbit B s).1) with
    | some y => if (rbit B s).2.fail = true then symF B l k (long + 1) (2 * n + (rbit B s).1) (rbit B s).2 else (y, (rbit B s).2)
    | none => symF B l k (long + 1) (2 * n + (rbit B s).1) (rbit B s).2
def sym (B : List Nat) (l : Ents) (s : RS) : Nat × RS := symF B l 15 1 0 s
theorem symF_le {B : List Nat} {l : Ents} : ∀ (k long n : Nat) (s : RS), s.at_ ≤ 8 * B.length → (symF B l k long n s).2.at_ ≤ 8 * B.length
  | 0, _, _, s, h => h
  | k + 1, long, n, s, h => by
    have h1 := rbit_le (B := B) (s := s) h; simp only [symF]
    split
    · split
      · exact symF_le k _ _ _ h1
      · exact h1
    · exact symF_le k _ _ _ h1
theorem sym_le {B : List Nat} {l : Ents} {s : RS} (h : s.at_ ≤ 8 * B.length) : (sym B l s).2.at_ ≤ 8 * B.length := symF_le _ _ _ _ h
theorem symF_lt {B : List Nat} {L : List Nat} {j : Nat} (hj : 0 < j) : ∀ (k long n : Nat) (s : RS), (symF B (ents L j) k long n s).1 < j
  | 0, _, _, s => hj
  | k + 1, long, n, s => by
    simp only [symF]
    split
    · rename_i y hy
      split
      · exact symF_lt hj k _ _ _
      · exact (ents_mem (lkup_some hy)).1
    · exact symF_lt hj k _ _ _
end Go.Proofs.YtpbahgddoamhgaaGreatDoor.Pu
namespace Go.Proofs.YtpbahgddoamhgaaGreatDoor.Sx
open Go Pu

def pairV (a b : Nat) : Value := .agg #[.int .i64 (a : Nat), .int .i64 (b : Nat)]

section
variable {P : Program} {t e : TypeId} (hu : P.underlying t = some (.array 2 e)) (he : P.underlying e = some (.int .i64)) (hz : ∀ w, (sizeOf e).run P w = .ok 1 w)

theorem equal_int (d : Nat) (he : P.underlying e = some (.int .i64)) (a b : Nat) (w : World) : (Op.equalIn (d + 1) e (.int .i64 (a : Nat)) (.int .i64 (b : Nat))).run P w = .ok (decide (a = b)) w := by
  have : ((a : Int) == (b : Int)) = decide (a = b) := by
    rw [show ((a : Int) == (b : Int)) = decide ((a : Int) = (b : Int)) from rfl]; simp [Int.ofNat_inj]
  simp only [Op.equalIn, underlying, Sem.run_bind, run_program, he, Result.andThen_ok, if_true, Sem.run_pure, this]

theorem part_pair (he : P.underlying e = some (.int .i64)) (a b : Nat) (i : Nat) (hi : i < 2) (w : World) : (part e #[.int .i64 (a : Nat), .int .i64 (b : Nat)] i).run P w = .ok (.int .i64 (if i = 0 then a else b : Nat)) w := by
  have : i = 0 ∨ i = 1 := by omega
  rcases this with rfl | rfl <;> simp [part, isAgg, underlying, he]

include hu he hz in
theorem equal_pairIn (d : Nat) (a b c f : Nat) (w : World) : (Op.equalIn (d + 2) t (pairV a b) (pairV c f)).run P w = .ok (decide (a = c) && decide (b = f)) w := by
  have p0 : ∀ (x y : Nat) w, (part e #[.int .i64 (x : Nat), .int .i64 (y : Nat)] 0).run P w = .ok (.int .i64 (x : Nat)) w := fun x y w => part_pair (P := P) (e := e) he x y 0 (by decide) w; have p1 : ∀ (x y : Nat) w, (part e #[.int .i64 (x : Nat), .int .i64 (y : Nat)] 1).run P w = .ok (.int .i64 (y : Nat)) w := fun x y w => part_pair (P := P) (e := e) he x y 1 (by decide) w; have q := fun x y w => equal_int (P := P) (e := e) d he x y w; rw [show d + 2 = (d + 1) + 1 from rfl, Op.equalIn]; simp only [underlying, Sem.run_bind, run_program, hu, Result.andThen_ok, pairV, hz, Std.Legacy.Range.forIn_eq_forIn_range', Sem.run_pure]; rw [show List.range' 0 ([:2] : Std.Legacy.Range).size = [0, 1] from rfl]; by_cases h1 : a = c
  · by_cases h2 : b = f
    · simp [h1, h2, p0, p1, q]
    · simp [h1, h2, p0, p1, q]
  · simp [h1, p0, q]
include hu he hz in
theorem equal_pair (a b c f : Nat) (w : World) : (Op.equal t (pairV a b) (pairV c f)).run P w = .ok (decide (a = c) && decide (b = f)) w :=
  equal_pairIn hu he hz 9998 a b c f w

include hu he hz in
theorem checkKey_pair (b0 : Bool) (d : Nat) (a b : Nat) (w : World) : (Instr.checkKey b0 (d + 2) t (pairV a b)).run P w = .ok () w := by
  have p0 : ∀ (x y : Nat) w, (part e #[.int .i64 (x : Nat), .int .i64 (y : Nat)] 0).run P w = .ok (.int .i64 (x : Nat)) w := fun x y w => part_pair (P := P) (e := e) he x y 0 (by decide) w; have p1 : ∀ (x y : Nat) w, (part e #[.int .i64 (x : Nat), .int .i64 (y : Nat)] 1).run P w = .ok (.int .i64 (y : Nat)) w := fun x y w => part_pair (P := P) (e := e) he x y 1 (by decide) w; have q : ∀ (x : Nat) w, (Instr.checkKey b0 (d + 1) e (.int .i64 (x : Nat))).run P w = .ok () w := fun x w => by
    simp [Instr.checkKey, underlying, he]
  rw [show d + 2 = (d + 1) + 1 from rfl, Instr.checkKey]; simp only [underlying, Sem.run_bind, run_program, hu, Result.andThen_ok, pairV, Std.Legacy.Range.forIn_eq_forIn_range', Sem.run_pure]; rw [show List.range' 0 ([:2] : Std.Legacy.Range).size = [0, 1] from rfl]; simp [hz, p0, p1, q]

/-- an entry: length, number, symbol -/
def entV (x : Nat × Nat × Nat) (i : Nat) : MapEntry := ⟨pairV x.1 x.2.1, .int .i64 (x.2.2 : Nat), i⟩
def entsV : Ents → Nat → List MapEntry
  | [], _ => []
  | x :: l, i => entV x i :: entsV l (i + 1)
abbrev mapO (l : Ents) : Obj := .map (entsV l 0).toArray l.length
theorem entsV_append (l l' : Ents) (i : Nat) : entsV (l ++ l') i = entsV l i ++ entsV l' (i + l.length) := by
  induction l generalizing i with
  | nil => simp [entsV]
  | cons x l ih => simp [entsV, ih, Nat.add_assoc, Nat.add_comm 1]

include hu he hz in
theorem findAsking_run (a b : Nat) (l : Ents) : ∀ (i j : Nat) (w : World), ∃ k, (Instr.findAsking t (pairV a b) (entsV l i) j).run P w = .ok ((lkup l a b).map fun s => (k, .int .i64 (s : Nat))) w := by
  induction l with
  | nil => intro i j w; exact ⟨0, by simp [entsV, Instr.findAsking, lkup]⟩
  | cons x l ih =>
    intro i j w; obtain ⟨k, hk⟩ := ih (i + 1) (j + 1) w; simp only [entsV, Instr.findAsking, Sem.run_bind, entV, equal_pair hu he hz, Result.andThen_ok, lkup]; by_cases h : a = x.1 ∧ b = x.2.1
    · refine ⟨j, ?_⟩; rw [if_pos h]; simp [h.1, h.2]
    · refine ⟨k, ?_⟩; rw [if_neg h]; have h2 : (decide (a = x.1) && decide (b = x.2.1)) = false := by
        rw [Bool.and_eq_false_iff, decide_eq_false_iff_not, decide_eq_false_iff_not]; by_cases h1 : a = x.1
        · exact .inr fun h3 => h ⟨h1, h3⟩
        · exact .inl h1
      rw [h2]; exact hk
include hu he hz in
theorem findKey_run (a b : Nat) (l : Ents) (w : World) : ∃ k, (Instr.findKey t (pairV a b) (entsV l 0)).run P w = .ok ((lkup l a b).map fun s => (k, .int .i64 (s : Nat))) w := by
  cases l with
  | nil => exact ⟨0, by simp [Instr.findKey, underlying, hu, entsV, Instr.findNow, lkup]⟩
  | cons x l =>
    obtain ⟨k, hk⟩ := findAsking_run hu he hz a b (x :: l) 0 0 w; refine ⟨k, ?_⟩; have : Instr.findNow (.array 2 e) (pairV a b) (entsV (x :: l) 0) 0 = none := rfl; simp [Instr.findKey, underlying, hu, this, hk]
end

section
variable {P : Program} {n : Nat} {E : El} {H : Hl} {o : Oper}
theorem v_lk {t kt et e : TypeId} {x y : Operand} {b a c : Nat} {l : Ents} {r : Obj → Hl} (ho : o.op = .lookup t x y true) (ht : P.underlying t = some (.map kt et)) (hu : P.underlying kt = some (.array 2 e)) (he : P.underlying e = some (.int .i64)) (hz : ∀ w, (sizeOf e).run P w = .ok 1 w)
    (hzv : ∀ w, (zeroValue et).run P w = .ok (.int .i64 0) w) (hx : ev E x = some (.map (some b))) (hy : ev E y = some (pairV a c)) [ha : AtH H b (mapO l) r] :
    OV P n E H o (.tuple #[.int .i64 (((lkup l a c).getD 0 : Nat) : Int), .bool (lkup l a c).isSome]) := fun O F s w hag hp => by
  have hb := ha.has hp; obtain ⟨k, hk⟩ := findKey_run hu he hz a c l w; have hck : ∀ b0, (Instr.checkKey b0 10000 kt (pairV a c)).run P w = .ok () w := fun b0 => checkKey_pair hu he hz b0 9998 a c w; have hg : (getObj b).run P w = .ok (mapO l) w := by simp [getObj, Sem.run, hb, mapO]
  simp only [execOp, ho, ev_sound hag hx, ev_sound hag hy, Instr.lookup, underlying, Sem.run_bind, run_program, ht, Result.andThen_ok, hg, mapO, hck, Sem.run_pure]; rw [hk]
  cases h : lkup l a c with
  | none => simp [hzv]
  | some s => simp

theorem v_mm {t : TypeId} (ho : o.op = .makeMap t none) : OS P n E H o (fun v H' => ∃ b, v = .map (some b) ∧ H' = (b, mapO []) :: H ∧ ∀ p ∈ H, p.1 ≠ b) := fun O F a w hag hp => by
  refine ⟨_, w.alloc (.map #[] 0), _, .inl ?_, ⟨w.heap.size, rfl, rfl, hp.fresh⟩, hp.cons rfl⟩; simp [execOp, ho, Instr.makeMap]

theorem v_mu {t kt et e : TypeId} {x y v : Operand} {b a c s : Nat} {i : Int} {l : Ents} {r : Obj → Hl} (ho : o.op = .mapUpdate t x y v) (ht : P.underlying t = some (.map kt et)) (hu : P.underlying kt = some (.array 2 e)) (he : P.underlying e = some (.int .i64)) (hz : ∀ w, (sizeOf e).run P w = .ok 1 w)
    (hx : ev E x = some (.map (some b))) (hy : ev E y = some (pairV a c)) (hv : ev E v = some (.int .i64 i)) [hi : NO i s] [ha : AtH H b (mapO l) r] (hnew : lkup l a c = none) :
    OS P n E H o (fun u H' => u = undef ∧ H' = r (mapO (l ++ [(a, c, s)]))) := fun O F st w hag hp => by
  have hb := ha.has hp; obtain ⟨k, hk⟩ := findKey_run hu he hz a c l w; rw [hnew] at hk; have hck : ∀ b0, (Instr.checkKey b0 10000 kt (pairV a c)).run P w = .ok () w := fun b0 => checkKey_pair hu he hz b0 9998 a c w; have hg : (getObj b).run P w = .ok (mapO l) w := by simp [getObj, Sem.run, hb, mapO]
  have hlt : b < w.heap.size := (Array.getElem?_eq_some_iff.1 hb).1; obtain rfl := hi.h; have hobj : mapO (l ++ [(a, c, s)]) = .map ((entsV l 0).toArray.push ⟨pairV a c, .int .i64 (s : Nat), l.length⟩) (l.length + 1) := by
    simp [mapO, entsV_append, entsV, entV]
  refine ⟨undef, { w with heap := w.heap.setIfInBounds b (mapO (l ++ [(a, c, s)])) }, _, .inr ⟨?_, rfl⟩, ⟨rfl, rfl⟩, ha.set hp rfl rfl (fun k hk => ?_) ?_⟩
  · have hs : ∀ ob, (setObj b ob).run P w = .ok () { w with heap := w.heap.setIfInBounds b ob } := fun ob => by
      simp only [setObj, Sem.run, hb, mapO]
    simp only [execOp, ho, ev_sound hag hx, ev_sound hag hy, ev_sound hag hv, Instr.mapUpdate, underlying, Sem.run_bind, run_program, ht, Result.andThen_ok, hg, mapO, hck, Sem.run_pure]; rw [hk]; simp only [Option.map_none, Result.andThen_ok, hs, hobj]
  · exact Array.getElem?_setIfInBounds_ne (fun e => hk e.symm)
  · simp [hlt]
end
end Go.Proofs.YtpbahgddoamhgaaGreatDoor.Sx
