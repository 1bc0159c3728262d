/-
  PLAIN: a table of slots with linear probing: no Go in sight.
-/
namespace Go.Proofs.Ybulkalsm.Tab

/-- What slot p holds. -/
def slotAt (T : List Int) (p : Nat) : Int := T.getD p 0
/-- The probe from h comes to slot p over slots that are taken. -/
def Reach (T : List Int) (h p : Nat) : Prop := ∃ d, p = (h + d) % T.length ∧ ∀ d', d' < d → slotAt T ((h + d') % T.length) ≠ 0
/-- The probe from h ends at the free slot p. -/
def PutAt (T : List Int) (h p : Nat) : Prop := p < T.length ∧ slotAt T p = 0 ∧ Reach T h p
/-- How many slots are taken. -/
def nz (T : List Int) : Nat := T.countP (fun x => decide (x ≠ 0))

structure Good (H : Nat → Nat) (T : List Int) : Prop where
  pos : ∀ p, p < T.length → slotAt T p ≠ 0 → 1 ≤ slotAt T p
  inj : ∀ p q, p < T.length → q < T.length → slotAt T p ≠ 0 → slotAt T p = slotAt T q → p = q
  reach : ∀ p, p < T.length → slotAt T p ≠ 0 → Reach T (H (slotAt T p - 1).toNat) p

theorem slotAt_set (T : List Int) (p q : Nat) (v : Int) (hp : p < T.length) : slotAt (T.set p v) q = if q = p then v else slotAt T q := by
  unfold slotAt
  by_cases h : q = p
  · subst h; simp [hp]
  · rw [if_neg h]; simp [List.getD_eq_getElem?_getD, List.getElem?_set_ne (Ne.symm h)]
theorem slotAt_lt (T : List Int) (p : Nat) (h : p < T.length) : slotAt T p = T[p] := by simp [slotAt, h]
theorem slotAt_nz (T : List Int) (p : Nat) (h : slotAt T p ≠ 0) : p < T.length := by
  rcases Nat.lt_or_ge p T.length with h' | h'
  · exact h'
  · exact absurd (by simp [slotAt, List.getElem?_eq_none h']) h

theorem nz_set (T : List Int) (p : Nat) (v : Int) (hp : p < T.length) (h0 : slotAt T p = 0) (hv : v ≠ 0) : nz (T.set p v) = nz T + 1 := by
  unfold nz
  rw [slotAt_lt T p hp] at h0
  rw [List.countP_set hp]
  simp [h0, hv]
theorem nz_le (T : List Int) : nz T ≤ T.length := List.countP_le_length
theorem zero_of (T : List Int) (h : nz T < T.length) : ∃ p, p < T.length ∧ slotAt T p = 0 := by
  refine Classical.byContradiction fun hn => ?_
  have hall : ∀ x ∈ T, decide (x ≠ 0) = true := by
    intro x hx
    obtain ⟨j, hj, rfl⟩ := List.getElem_of_mem hx
    have : slotAt T j ≠ 0 := fun e => hn ⟨j, hj, e⟩
    rw [slotAt_lt T j hj] at this
    simpa using this
  have := (List.countP_eq_length (p := fun x : Int => decide (x ≠ 0)) (l := T)).2 hall
  unfold nz at h
  omega
theorem nz_take_succ (T : List Int) (m : Nat) (h : m < T.length) : nz (T.take (m + 1)) = nz (T.take m) + if slotAt T m = 0 then 0 else 1 := by
  unfold nz
  rw [List.take_succ_eq_append_getElem h, List.countP_append, slotAt_lt T m h]
  by_cases e : T[m] = 0 <;> simp [e]

theorem nz_take_le (T : List Int) (m : Nat) : nz (T.take m) ≤ nz T := (List.take_sublist m T).countP_le

/-- From h every slot is met within as many steps as there are slots. -/
theorem probe_to (c h z : Nat) (hz : z < c) : ∃ d, d < c ∧ (h + d) % c = z := by
  refine ⟨(z + c - h % c) % c, Nat.mod_lt _ (by omega), ?_⟩
  have hh : h % c < c := Nat.mod_lt _ (by omega)
  rw [Nat.add_mod, Nat.mod_mod, ← Nat.add_mod]
  have e : (h + (z + c - h % c)) = (z + c * (1 + h / c)) := by
    have := Nat.div_add_mod h c
    rw [Nat.mul_add, Nat.mul_one]
    omega
  rw [e, Nat.add_mul_mod_self_left, Nat.mod_eq_of_lt hz]

theorem reach_set {T : List Int} {h p q : Nat} {v : Int} (hp : p < T.length) (hv : v ≠ 0) (hr : Reach T h q) : Reach (T.set p v) h q := by
  obtain ⟨d, hd, hn⟩ := hr
  refine ⟨d, by simpa using hd, fun d' hd' => ?_⟩
  rw [List.length_set, slotAt_set T p _ v hp]
  split
  · exact hv
  · exact hn d' hd'

theorem good_put {H : Nat → Nat} {T : List Int} {n p : Nat} (hg : Good H T) (hp : PutAt T (H n) p) (hnew : ∀ q, q < T.length → slotAt T q ≠ (n : Int) + 1) : Good H (T.set p ((n : Int) + 1)) := by
  obtain ⟨hlt, h0, hr⟩ := hp
  have hv : (n : Int) + 1 ≠ 0 := by omega
  refine ⟨fun q hq hnz => ?_, fun q r hq hr' hnz he => ?_, fun q hq hnz => ?_⟩
  · rw [slotAt_set T p q _ hlt] at hnz ⊢
    rw [List.length_set] at hq
    split
    · omega
    · rename_i h; rw [if_neg h] at hnz; exact hg.pos q hq hnz
  · rw [List.length_set] at hq hr'
    rw [slotAt_set T p q _ hlt] at hnz he
    rw [slotAt_set T p r _ hlt] at he
    by_cases e1 : q = p
    · by_cases e2 : r = p
      · omega
      · rw [if_pos e1, if_neg e2] at he
        exact absurd he.symm (hnew r hr')
    · by_cases e2 : r = p
      · rw [if_neg e1, if_pos e2] at he
        exact absurd he (hnew q hq)
      · rw [if_neg e1, if_neg e2] at he
        rw [if_neg e1] at hnz
        exact hg.inj q r hq hr' hnz he
  · rw [List.length_set] at hq
    rw [slotAt_set T p q _ hlt] at hnz ⊢
    by_cases e1 : q = p
    · rw [if_pos e1, e1]
      rw [show ((n : Int) + 1 - 1).toNat = n by omega]
      exact reach_set hlt hv hr
    · rw [if_neg e1] at hnz ⊢
      exact reach_set hlt hv (hg.reach q hq hnz)

/-- The numbers below k, and no others, lie in the table. -/
structure Full (H : Nat → Nat) (T : List Int) (k : Nat) : Prop where
  good : Good H T
  count : nz T = k
  top : ∀ p, p < T.length → slotAt T p ≤ k
  all : ∀ n, n < k → ∃ p, p < T.length ∧ slotAt T p = (n : Int) + 1

theorem full_put {H : Nat → Nat} {T : List Int} {k p : Nat} (hf : Full H T k) (hp : PutAt T (H k) p) : Full H (T.set p ((k : Int) + 1)) (k + 1) := by
  refine ⟨good_put hf.good hp fun q hq e => ?_, ?_, fun q hq => ?_, fun n hn => ?_⟩
  · have := hf.top q hq; omega
  · rw [nz_set T p _ hp.1 hp.2.1 (by omega), hf.count]
  · rw [List.length_set] at hq
    rw [slotAt_set T p q _ hp.1]
    split
    · omega
    · have := hf.top q hq; omega
  · by_cases e : n = k
    · exact ⟨p, by simpa using hp.1, by rw [slotAt_set T p p _ hp.1, if_pos rfl, e]⟩
    · obtain ⟨q, hq, hl⟩ := hf.all n (by omega)
      refine ⟨q, by simpa using hq, ?_⟩
      rw [slotAt_set T p q _ hp.1, if_neg (fun e' => ?_), hl]
      rw [e', hp.2.1] at hl
      omega

/-- The first m slots of T have gone over into T'. -/
structure Over (H : Nat → Nat) (T : List Int) (m : Nat) (T' : List Int) : Prop where
  good : Good H T'
  count : nz T' = nz (T.take m)
  back : ∀ q, q < T'.length → slotAt T' q ≠ 0 → ∃ p, p < m ∧ slotAt T p = slotAt T' q
  forth : ∀ p, p < m → slotAt T p ≠ 0 → ∃ q, q < T'.length ∧ slotAt T' q = slotAt T p

theorem slotAt_zeros (c q : Nat) : slotAt (List.replicate c 0) q = 0 := by
  unfold slotAt
  rcases Nat.lt_or_ge q c with h | h
  · simp [h]
  · simp [List.getElem?_eq_none (show (List.replicate c (0 : Int)).length ≤ q by simpa using h)]
theorem over_start (H : Nat → Nat) (T : List Int) (c : Nat) : Over H T 0 (List.replicate c 0) := by
  refine ⟨⟨fun p _ h => absurd (slotAt_zeros c p) h, fun p q _ _ h _ => absurd (slotAt_zeros c p) h, fun p _ h => absurd (slotAt_zeros c p) h⟩, ?_, fun q _ h => absurd (slotAt_zeros c q) h, fun p h => by omega⟩
  unfold nz
  rw [List.take_zero, List.countP_nil, List.countP_eq_zero]
  intro x hx
  simp [List.eq_of_mem_replicate hx]
theorem over_skip {H : Nat → Nat} {T T' : List Int} {m : Nat} (ho : Over H T m T') (hm : m < T.length) (h0 : slotAt T m = 0) : Over H T (m + 1) T' := by
  refine ⟨ho.good, ?_, fun q hq h => ?_, fun p hp h => ?_⟩
  · rw [nz_take_succ T m hm, if_pos h0, ho.count]; rfl
  · obtain ⟨p, hp, hl⟩ := ho.back q hq h
    exact ⟨p, by omega, hl⟩
  · by_cases e : p = m
    · rw [e] at h; exact absurd h0 h
    · exact ho.forth p (by omega) h
theorem over_put {H : Nat → Nat} {T T' : List Int} {m n q : Nat} (hT : Good H T) (ho : Over H T m T') (hm : m < T.length) (hn : slotAt T m = (n : Int) + 1) (hp : PutAt T' (H n) q) : Over H T (m + 1) (T'.set q ((n : Int) + 1)) := by
  have hnz : slotAt T m ≠ 0 := by omega
  refine ⟨good_put ho.good hp fun r hr e => ?_, ?_, fun r hr h => ?_, fun p hp' h => ?_⟩
  · obtain ⟨p, hp', hl⟩ := ho.back r hr (by omega)
    have := hT.inj m p hm (by omega) hnz (by rw [hn, hl, e])
    omega
  · rw [nz_set T' q _ hp.1 hp.2.1 (by omega), nz_take_succ T m hm, if_neg hnz, ho.count]
  · rw [List.length_set] at hr
    rw [slotAt_set T' q r _ hp.1] at h ⊢
    by_cases e : r = q
    · rw [if_pos e]; exact ⟨m, by omega, hn⟩
    · rw [if_neg e] at h ⊢
      obtain ⟨p, hp', hl⟩ := ho.back r hr h
      exact ⟨p, by omega, hl⟩
  · by_cases e : p = m
    · exact ⟨q, by simpa using hp.1, by rw [slotAt_set T' q q _ hp.1, if_pos rfl, e, hn]⟩
    · obtain ⟨r, hr, hl⟩ := ho.forth p (by omega) h
      refine ⟨r, by simpa using hr, ?_⟩
      rw [slotAt_set T' q r _ hp.1, if_neg (fun e' => ?_), hl]
      rw [e', hp.2.1] at hl
      exact h hl.symm
theorem full_over {H : Nat → Nat} {T T' : List Int} {k : Nat} (hf : Full H T k) (ho : Over H T T.length T') : Full H T' k := by
  refine ⟨ho.good, ?_, fun p hp => ?_, fun n hn => ?_⟩
  · rw [ho.count, List.take_length, hf.count]
  · by_cases h : slotAt T' p = 0
    · omega
    · obtain ⟨q, hq, hl⟩ := ho.back p hp h
      rw [← hl]; exact hf.top q hq
  · obtain ⟨p, hp, hl⟩ := hf.all n hn
    obtain ⟨q, hq, hl'⟩ := ho.forth p hp (by omega)
    exact ⟨q, hq, by omega⟩
theorem full_nil (H : Nat → Nat) : Full H [] 0 :=
  ⟨⟨fun p h => absurd h (by simp), fun p q h => absurd h (by simp), fun p h => absurd h (by simp)⟩, rfl, fun p h => absurd h (by simp), fun n h => by omega⟩
end Go.Proofs.Ybulkalsm.Tab
