import PyProof.Rows.All
import Wide.All
import OpenK.AllK
import Wide.FinOn
import Lean
import PySem.Challenge.RW_bh0020_01
set_option Elab.async false
set_option linter.unusedVariables false
set_option linter.unusedSimpArgs false
set_option rowWalk.seconds 0
section
open PySem PySem.W PyProof.Rows
namespace Mine
def nx (m i : Nat) : Nat := (i * 5 + 1) % m
def itx (m : Nat) : Nat → Nat → Nat
  | 0, i => i
  | k + 1, i => itx m k (nx m i)
def accx (m : Nat) : Nat → Nat → Nat → Nat
  | 0, _, a => a
  | k + 1, i, a => accx m k (nx m i) (a ||| (1 <<< i))
theorem accx_bit (m j : Nat) : ∀ k i a, (accx m k i a).testBit j = true → a.testBit j = true ∨ ∃ k', k' < k ∧ itx m k' i = j
  | 0, i, a, h => .inl h
  | k + 1, i, a, h => by
    rcases accx_bit m j k _ _ h with h | ⟨k', hk, e⟩
    · rw [Nat.testBit_or, Bool.or_eq_true] at h
      rcases h with h | h
      · exact .inl h
      · refine .inr ⟨0, Nat.succ_pos _, ?_⟩
        rw [Nat.testBit_shiftLeft] at h
        simp only [Bool.and_eq_true, decide_eq_true_eq] at h
        obtain ⟨h1, h2⟩ := h
        have : j - i = 0 := by
          rcases Nat.eq_zero_or_pos (j - i) with h0 | h0
          · exact h0
          · rw [Nat.testBit_one_eq_true_iff_self_eq_zero] at h2; exact h2
        show i = j
        omega
    · exact .inr ⟨k' + 1, Nat.succ_lt_succ hk, e⟩
theorem itx_add (m : Nat) : ∀ a b i, itx m (a + b) i = itx m b (itx m a i)
  | 0, b, i => by rw [Nat.zero_add]; rfl
  | a + 1, b, i => by rw [Nat.add_right_comm]; exact itx_add m a b _
def coverOk (m : Nat) : Bool := accx m m 0 0 == 2 ^ m - 1 && itx m m 0 == 0
theorem cover_of {m : Nat} (h : coverOk m = true) : ∀ i < m, ∀ j < m, ∃ k, k < m ∧ itx m k i = j := by
  simp only [coverOk, Bool.and_eq_true, beq_iff_eq] at h
  obtain ⟨h1, h2⟩ := h
  have at0 : ∀ j < m, ∃ k, k < m ∧ itx m k 0 = j := fun j hj => by
    have : (accx m m 0 0).testBit j = true := by rw [h1, Nat.testBit_two_pow_sub_one]; exact decide_eq_true hj
    rcases accx_bit m j m 0 0 this with h | h
    · rw [Nat.zero_testBit] at h; cases h
    · exact h
  intro i hi j hj
  obtain ⟨a, ha, rfl⟩ := at0 i hi
  obtain ⟨b, hb, rfl⟩ := at0 j hj
  by_cases hab : a ≤ b
  · refine ⟨b - a, by omega, ?_⟩
    rw [← itx_add, Nat.add_sub_cancel' hab]
  · refine ⟨m + b - a, by omega, ?_⟩
    rw [← itx_add, show a + (m + b - a) = m + b by omega, itx_add, h2]
def masks : List Nat := [7, 15, 31, 63, 127, 255, 511, 1023]
theorem cover_masks : ∀ mask ∈ masks, ∀ i < mask + 1, ∀ j < mask + 1, ∃ k, k < mask + 1 ∧ itx (mask + 1) k i = j := by
  intro mask hm
  refine cover_of ?_
  simp only [masks, List.mem_cons, List.not_mem_nil, or_false] at hm
  rcases hm with rfl | rfl | rfl | rfl | rfl | rfl | rfl | rfl <;> decide +kernel
def Rising (xs : Array Nat) : Prop := ∀ i j, i < j → j < xs.size → xs.getD i 0 < xs.getD j 0
theorem below_go (xs : Array Nat) (j : Nat) (hr : Rising xs) : ∀ fuel lo hi, hi ≤ xs.size → hi - lo ≤ fuel → lo ≤ hi → (∀ i < lo, xs.getD i 0 < j) → (∀ i, hi ≤ i → i < xs.size → j ≤ xs.getD i 0) →
    let r := SetTable.below.go xs j fuel lo hi
    r ≤ xs.size ∧ (∀ i < r, xs.getD i 0 < j) ∧ (∀ i, r ≤ i → i < xs.size → j ≤ xs.getD i 0)
  | 0, lo, hi, hsz, hf, hle, hlo, hhi => by
    have : lo = hi := by omega
    subst this
    exact ⟨hsz, hlo, hhi⟩
  | fuel + 1, lo, hi, hsz, hf, hle, hlo, hhi => by
    unfold SetTable.below.go
    by_cases h : lo < hi
    · rw [if_pos h]
      dsimp only
      by_cases h2 : xs.getD ((lo + hi) / 2) j < j
      · rw [if_pos h2]
        have hm : (lo + hi) / 2 < xs.size := by omega
        have h3 : xs.getD ((lo + hi) / 2) 0 < j := by simpa [Array.getD, hm] using h2
        refine below_go xs j hr fuel _ hi hsz (by omega) (by omega) (fun i hi' => ?_) hhi
        by_cases e : i = (lo + hi) / 2
        · subst e; exact h3
        · exact Nat.lt_trans (hr i _ (by omega) hm) h3
      · rw [if_neg h2]
        have hm : (lo + hi) / 2 < xs.size := by omega
        have h3 : j ≤ xs.getD ((lo + hi) / 2) 0 := by simpa [Array.getD, hm] using h2
        refine below_go xs j hr fuel lo _ (by omega) (by omega) (by omega) hlo (fun i hi' hi2 => ?_)
        by_cases e : i = (lo + hi) / 2
        · subst e; exact h3
        · exact Nat.le_of_lt (Nat.lt_of_le_of_lt h3 (hr _ i (by omega) hi2))
    · rw [if_neg h]
      have : lo = hi := by omega
      subst this
      exact ⟨hsz, hlo, hhi⟩
theorem below_spec {xs : Array Nat} (hr : Rising xs) (j : Nat) : SetTable.below xs j ≤ xs.size ∧ (∀ i < SetTable.below xs j, xs.getD i 0 < j) ∧ (∀ i, SetTable.below xs j ≤ i → i < xs.size → j ≤ xs.getD i 0) :=
  below_go xs j hr xs.size 0 xs.size (Nat.le_refl _) (Nat.le_refl _) (Nat.zero_le _) (fun i h => absurd h (Nat.not_lt_zero _)) (fun i h h2 => absurd h2 (Nat.not_lt.mpr h))
theorem below_eq {xs : Array Nat} (hr : Rising xs) {j i : Nat} (hi : i ≤ xs.size) (h1 : ∀ k < i, xs.getD k 0 < j) (h2 : i < xs.size → j ≤ xs.getD i 0) : SetTable.below xs j = i := by
  obtain ⟨a, b, c⟩ := below_spec hr j
  rcases Nat.lt_trichotomy (SetTable.below xs j) i with h | h | h
  · have := c _ (Nat.le_refl _) (by omega)
    have := h1 _ h
    omega
  · exact h
  · have := b i h
    have := h2 (by omega)
    omega
theorem rising_nil : Rising #[] := fun i j _ h => absurd h (Nat.not_lt_zero _)
theorem rising_insert {xs : Array Nat} (hr : Rising xs) {j : Nat} (hj : xs[SetTable.below xs j]? ≠ some j) : Rising (SetTable.insertAt xs (SetTable.below xs j) j) := by
  obtain ⟨a, b, c⟩ := below_spec hr j
  generalize SetTable.below xs j = p at a b c hj
  have hget : ∀ i, (SetTable.insertAt xs p j).getD i 0 = if i < p then xs.getD i 0 else if i = p then j else xs.getD (i - 1) 0 := by
    intro i
    rw [Array.getD_eq_getD_getElem?, ← Array.getElem?_toList, SetTable.toList_insertAt]
    by_cases h1 : i < p
    · rw [if_pos h1, List.getElem?_append_left (by simp; omega), List.getElem?_take, if_pos h1]; simp [Array.getD_eq_getD_getElem?]
    · rw [if_neg h1, List.getElem?_append_right (by simp; omega)]
      have hl : (List.take p xs.toList).length = p := by simp; omega
      rw [hl]
      by_cases h2 : i = p
      · subst h2; simp
      · rw [if_neg h2, List.getElem?_cons, if_neg (by omega), List.getElem?_drop]
        rw [show p + (i - p - 1) = i - 1 by omega]; simp [Array.getD_eq_getD_getElem?]
  have hsz : (SetTable.insertAt xs p j).size = xs.size + 1 := by
    rw [← Array.length_toList, (SetTable.insertAt_perm xs p j).length_eq]; simp
  have hlt : ∀ i, p ≤ i → i < xs.size → j < xs.getD i 0 := by
    intro i h1 h2
    rcases Nat.lt_or_eq_of_le (c i h1 h2) with h | h
    · exact h
    · exfalso
      by_cases e : i = p
      · subst e; exact hj (by rw [Array.getElem?_eq_getElem h2]; rw [Array.getD, dif_pos h2] at h; exact congrArg some h.symm)
      · have := hr p i (by omega) h2
        have := c p (Nat.le_refl _) (by omega)
        omega
  intro i k hik hk
  rw [hsz] at hk
  rw [hget i, hget k]
  by_cases h1 : k < p
  · rw [if_pos h1, if_pos (by omega)]; exact hr i k hik (by omega)
  · rw [if_neg h1]
    by_cases h2 : k = p
    · rw [if_pos h2, if_pos (by omega)]; exact b i (by omega)
    · rw [if_neg h2]
      by_cases h3 : i < p
      · rw [if_pos h3]; exact Nat.lt_trans (b i h3) (hlt (k - 1) (by omega) (by omega))
      · rw [if_neg h3]
        by_cases h4 : i = p
        · rw [if_pos h4]; exact hlt (k - 1) (by omega) (by omega)
        · rw [if_neg h4]; exact hr (i - 1) (k - 1) (by omega) (by omega)
end Mine
end
section
open PySem PySem.W PyProof.Rows
namespace Mine
theorem filterMapCongr {α β : Type} {f g : α → Option β} : ∀ {l : List α}, (∀ x ∈ l, f x = g x) → l.filterMap f = l.filterMap g
  | [], _ => rfl
  | a :: r, h => by
    rw [List.filterMap_cons, List.filterMap_cons, h a (.head _), filterMapCongr fun x hx => h x (.tail _ hx)]
def HasFree (owner : Array (Option Nat)) (j : Nat) : Prop := j < owner.size ∧ owner[j]? = some none
theorem getD_isNone {owner : Array (Option Nat)} {j : Nat} : (owner.getD j (some 0)).isNone = true ↔ HasFree owner j := by
  unfold HasFree
  rw [Array.getD_eq_getD_getElem?]
  by_cases h : j < owner.size
  · rw [Array.getElem?_eq_getElem h]
    cases hv : owner[j] <;> simp [h]
  · rw [Array.getElem?_eq_none (Nat.not_lt.mp h)]; simp [h]
theorem free_is {mask : Nat} {owner : Array (Option Nat)} : ∀ {fuel i p j : Nat}, SetTable.layClean.free mask owner fuel i p = some j → HasFree owner j
  | 0, i, p, j, h => by unfold SetTable.layClean.free at h; cases h
  | fuel + 1, i, p, j, h => by
    unfold SetTable.layClean.free at h
    split at h
    · rename_i k hk
      cases h
      exact getD_isNone.mp (List.find?_some (p := fun k => (owner.getD (i + k) (some 0)).isNone) hk)
    · exact free_is h
theorem free_road {mask : Nat} {owner : Array (Option Nat)} (hm : 0 < mask) : ∀ {k fuel i : Nat}, i < mask + 1 → k < fuel → HasFree owner (itx (mask + 1) k i) → (SetTable.layClean.free mask owner fuel i 0).isSome = true
  | k, 0, i, _, h, _ => absurd h (Nat.not_lt_zero _)
  | k, fuel + 1, i, hi, h, hf => by
    unfold SetTable.layClean.free
    split
    · rfl
    · rename_i hn
      cases k with
      | zero =>
        exfalso
        have := List.find?_eq_none.mp hn 0 (by rw [List.mem_range]; unfold SetTable.runEnd; split <;> omega)
        exact this (getD_isNone.mpr (by simpa [itx] using hf))
      | succ k =>
        dsimp only [SetTable.leap]
        have e : (i * 5 + 1 + 0 / 32) % (mask + 1) = nx (mask + 1) i := rfl
        rw [e, Nat.zero_div]
        exact free_road hm (Nat.mod_lt _ (by omega)) (by omega) hf
theorem free_some {mask : Nat} (hm : mask ∈ masks) {owner : Array (Option Nat)} (hsz : owner.size = mask + 1) {j : Nat} (hj : HasFree owner j) {i p : Nat} (hp : p < 1024) :
    (SetTable.layClean.free mask owner (SetTable.turns mask) i p).isSome = true := by
  have hm0 : 0 < mask := by
    simp only [masks, List.mem_cons, List.not_mem_nil, or_false] at hm
    omega
  have hj' : j < mask + 1 := hsz ▸ hj.1
  unfold SetTable.turns
  rw [show mask + 15 = (mask + 13 + 1) + 1 by omega]
  unfold SetTable.layClean.free
  split
  · rfl
  · dsimp only [SetTable.leap]
    unfold SetTable.layClean.free
    split
    · rfl
    · dsimp only [SetTable.leap]
      rw [show p / 32 / 32 = 0 by omega]
      generalize hi2 : (((i * 5 + 1 + p / 32) % (mask + 1)) * 5 + 1 + 0) % (mask + 1) = i2
      have hi3 : i2 < mask + 1 := hi2 ▸ Nat.mod_lt _ (by omega)
      obtain ⟨k, hk, e⟩ := cover_masks mask hm i2 hi3 j hj'
      exact free_road hm0 hi3 (k := k) (by omega) (e ▸ hj)
structure Laid (mask : Nat) (owner : Array (Option Nat)) (n : Nat) : Prop where
  size : owner.size = mask + 1
  perm : (owner.toList.filterMap id).Perm (List.range n)
theorem Laid.start (mask : Nat) : Laid mask (Array.replicate (mask + 1) none) 0 :=
  ⟨by simp, by simp [Array.toList_replicate, List.filterMap_replicate_of_none]⟩
theorem filterMap_set {l : List (Option Nat)} {j n : Nat} (h : l[j]? = some none) : ((l.set j (some n)).filterMap id).Perm (n :: l.filterMap id) := by
  induction l generalizing j with
  | nil => simp at h
  | cons x r ih =>
    cases j with
    | zero =>
      simp only [List.getElem?_cons_zero, Option.some.injEq] at h
      subst h
      simp
    | succ j =>
      simp only [List.getElem?_cons_succ] at h
      rw [List.set_cons_succ]
      cases x with
      | none => simpa using ih h
      | some v => simp only [List.filterMap_cons, id]; exact ((ih h).cons v).trans (List.Perm.swap ..)
theorem Laid.step {mask n j : Nat} {owner : Array (Option Nat)} (L : Laid mask owner n) (hj : HasFree owner j) : Laid mask (owner.setIfInBounds j (some n)) (n + 1) := by
  refine ⟨by rw [Array.size_setIfInBounds]; exact L.size, ?_⟩
  rw [Array.toList_setIfInBounds, List.range_succ]
  have h2 : owner.toList[j]? = some none := by rw [Array.getElem?_toList]; exact hj.2
  exact ((filterMap_set h2).trans (L.perm.cons n)).trans (List.perm_append_singleton n _).symm
theorem exists_none {l : List (Option Nat)} (h : (l.filterMap id).length < l.length) : ∃ j : Nat, j < l.length ∧ l[j]? = some none := by
  induction l with
  | nil => simp at h
  | cons x r ih =>
    cases x with
    | none => exact ⟨0, by simp, by simp⟩
    | some v =>
      simp only [List.filterMap_cons, id, List.length_cons] at h
      obtain ⟨j, hj, e⟩ := ih (by omega)
      exact ⟨j + 1, by simpa using hj, by simpa using e⟩
theorem Laid.room {mask n : Nat} {owner : Array (Option Nat)} (L : Laid mask owner n) (h : n ≤ mask) : ∃ j, HasFree owner j := by
  have hl := L.perm.length_eq
  rw [List.length_range] at hl
  have hs := L.size
  obtain ⟨j, hj, e⟩ := exists_none (l := owner.toList) (by rw [hl, Array.length_toList]; omega)
  exact ⟨j, by simpa using hj, by rw [← Array.getElem?_toList]; exact e⟩
def Small (h : Int) : Prop := 0 ≤ h ∧ h < 1024
theorem bits_small {h : Int} (hs : Small h) : SetTable.bits h < 1024 := by
  obtain ⟨h0, h1⟩ := hs
  unfold SetTable.bits
  rw [Int.emod_eq_of_lt h0 (by omega)]
  omega
theorem layClean_go {mask : Nat} (hm : mask ∈ masks) : ∀ (hs : List Int) (owner : Array (Option Nat)) (n : Nat), Laid mask owner n → (∀ h ∈ hs, Small h) → n + hs.length ≤ mask + 1 →
    ∃ owner', hs.foldl (init := some (owner, n)) (fun (acc : Option (Array (Option Nat) × Nat)) h => do
      let (owner, k) ← acc
      let j ← SetTable.layClean.free mask owner (SetTable.turns mask) (SetTable.bits h % (mask + 1)) (SetTable.bits h)
      pure (owner.setIfInBounds j (some k), k + 1)) = some (owner', n + hs.length) ∧ Laid mask owner' (n + hs.length)
  | [], owner, n, L, _, _ => ⟨owner, rfl, L⟩
  | h :: r, owner, n, L, hsm, hle => by
    rw [List.length_cons] at hle
    obtain ⟨j, hj⟩ := L.room (by omega)
    have hs := free_some hm L.size hj (i := SetTable.bits h % (mask + 1)) (bits_small (hsm h (.head _)))
    obtain ⟨j', hj'⟩ := Option.isSome_iff_exists.mp hs
    have L' := L.step (free_is hj')
    obtain ⟨owner', e, L''⟩ := layClean_go hm r _ _ L' (fun x hx => hsm x (.tail _ hx)) (by omega)
    refine ⟨owner', ?_, ?_⟩
    · rw [List.foldl_cons]
      simp only [Option.bind_eq_bind, Option.bind_some, hj', Option.pure_def] at e ⊢
      rw [e, List.length_cons]
      congr 2
      omega
    · rw [List.length_cons, show n + (r.length + 1) = n + 1 + r.length by omega]; exact L''
theorem layClean_some {mask : Nat} (hm : mask ∈ masks) {hs : Array Int} (hsm : ∀ h ∈ hs.toList, Small h) (hle : hs.size ≤ mask) :
    ∃ owner, SetTable.layClean mask hs = some owner ∧ Laid mask owner hs.size := by
  obtain ⟨owner, e, L⟩ := layClean_go hm hs.toList _ 0 (Laid.start mask) hsm (by rw [Array.length_toList]; omega)
  refine ⟨owner, ?_, by simpa using L⟩
  unfold SetTable.layClean
  rw [← Array.foldl_toList, e]
  rfl
def liveOf (mask : Nat) (owner : Array (Option Nat)) : List (Nat × Nat) := (List.range (mask + 1)).filterMap fun j => (owner.getD j none).map (j, ·)
theorem live_snd {owner : List (Option Nat)} : ∀ (k : Nat), ((List.range' k owner.length).filterMap fun j => ((owner[j - k]?).getD none).map (j, ·)).map (·.2) = owner.filterMap id := by
  induction owner with
  | nil => intro k; rfl
  | cons x r ih =>
    intro k
    rw [List.length_cons, List.range'_succ, List.filterMap_cons]
    have e : (List.filterMap (fun j => (((x :: r)[j - k]?).getD none).map (j, ·)) (List.range' (k + 1) r.length)) = (List.filterMap (fun j => ((r[j - (k + 1)]?).getD none).map (j, ·)) (List.range' (k + 1) r.length)) := by
      refine filterMapCongr fun j hj => ?_
      have := (List.mem_range'_1.mp hj).1
      rw [show j - k = (j - (k + 1)) + 1 by omega, List.getElem?_cons_succ]
    rw [e]
    have ih := ih (k + 1)
    cases x with
    | none => simpa using ih
    | some v => simp only [Nat.sub_self, List.getElem?_cons_zero, Option.getD_some, Option.map_some, List.map_cons, List.filterMap_cons, id, ih]
theorem liveOf_snd {mask : Nat} {owner : Array (Option Nat)} (hs : owner.size = mask + 1) : (liveOf mask owner).map (·.2) = owner.toList.filterMap id := by
  have := live_snd (owner := owner.toList) 0
  rw [Array.length_toList, hs, ← List.range_eq_range'] at this
  rw [← this]
  unfold liveOf
  congr 1
  refine filterMapCongr fun j _ => ?_
  rw [Array.getD_eq_getD_getElem?, Nat.sub_zero, Array.getElem?_toList]
theorem pairwise_live (owner : Array (Option Nat)) : ∀ l : List Nat, l.Pairwise (· < ·) → ((l.filterMap fun j => (owner.getD j none).map (j, ·)).map (·.1)).Pairwise (· < ·) ∧ ∀ x ∈ (l.filterMap fun j => (owner.getD j none).map (j, ·)).map (·.1), x ∈ l
  | [], _ => ⟨.nil, by simp⟩
  | j :: r, h => by
    have ih := pairwise_live owner r (List.pairwise_cons.mp h).2
    have hj := (List.pairwise_cons.mp h).1
    rw [List.filterMap_cons]
    cases e : owner.getD j none with
    | none =>
      simp only [Option.map_none]
      exact ⟨ih.1, fun x hx => .tail _ (ih.2 x hx)⟩
    | some v =>
      simp only [Option.map_some, List.map_cons]
      refine ⟨List.pairwise_cons.mpr ⟨fun x hx => hj x (ih.2 x hx), ih.1⟩, fun x hx => ?_⟩
      rcases List.mem_cons.mp hx with rfl | hx
      · exact .head _
      · exact .tail _ (ih.2 x hx)
theorem rising_of_pairwise {l : List Nat} (h : l.Pairwise (· < ·)) : Rising l.toArray := by
  intro i j hij hj
  rw [List.size_toArray] at hj
  have := List.pairwise_iff_getElem.mp h i j (by omega) hj hij
  simpa [Array.getD, hj, show i < l.length by omega] using this
theorem laid_some {mask finger moves : Nat} {led plain : Bool} (hm : mask ∈ masks) {hs : Array Int} (hsm : ∀ h ∈ hs.toList, Small h) (hle : hs.size ≤ mask) :
    ∃ t order, SetTable.laid mask finger moves led plain hs = some (t, order) ∧ order.toList.Perm (List.range hs.size) ∧ t.mask = mask ∧ Rising t.place ∧ t.place.size = hs.size ∧ t.dummies = #[] ∧ t.led = led ∧ t.plain = plain ∧ (∀ x ∈ t.place.toList, x ≤ mask) := by
  obtain ⟨owner, e, L⟩ := layClean_some hm hsm hle
  have h2 := liveOf_snd L.size
  have h1 := pairwise_live owner (List.range (mask + 1)) List.pairwise_lt_range
  refine ⟨_, _, by unfold SetTable.laid; rw [e]; rfl, ?_, rfl, ?_, ?_, rfl, rfl, rfl, ?_⟩
  · show ((liveOf mask owner).map (·.2)).Perm _
    rw [h2]; exact L.perm
  · exact rising_of_pairwise h1.1
  · show ((liveOf mask owner).map (·.1)).toArray.size = _
    rw [List.size_toArray, List.length_map, ← List.length_map (f := (·.2)), h2, L.perm.length_eq, List.length_range]
  · intro x hx
    have := h1.2 x (by simpa using hx)
    rw [List.mem_range] at this
    omega
theorem reorder_perm {α : Type} {order : Array Nat} {es : Array α} (h : order.toList.Perm (List.range es.size)) : (order.filterMap (es[·]?)).toList.Perm es.toList := by
  rw [Array.toList_filterMap]
  exact (h.filterMap _).trans (by rw [filterMap_getElem?_range])
end Mine
end
section
open PySem PySem.W PyProof.Rows
namespace Mine
theorem sizeAbove_ok : ∀ w < 1024, (decide (SetTable.sizeAbove w - 1 ∈ masks) && decide (w < SetTable.sizeAbove w) && decide (7 ≤ SetTable.sizeAbove w - 1)) = true := by decide +kernel
theorem sizeAbove_mem {w : Nat} (h : w < 1024) : SetTable.sizeAbove w - 1 ∈ masks ∧ w ≤ SetTable.sizeAbove w - 1 ∧ 7 ≤ SetTable.sizeAbove w - 1 := by
  have := sizeAbove_ok w h
  simp only [Bool.and_eq_true, decide_eq_true_eq] at this
  exact ⟨this.1.1, by omega, this.2⟩
structure Good0 (led : Bool) (t : SetTable) (n : Nat) : Prop where
  mask : t.mask ∈ masks
  dum : t.dummies = #[]
  rise : Rising t.place
  size : t.place.size = n
  inb : ∀ x ∈ t.place.toList, x ≤ t.mask
  led : t.led = led
  plain : t.plain = true
structure GoodT (led : Bool) (t : SetTable) (n : Nat) : Prop extends Good0 led t n where
  room : n * 5 < t.mask * 3
theorem masks_ge {m : Nat} (h : m ∈ masks) : 7 ≤ m ∧ m ≤ 1023 := by
  simp only [masks, List.mem_cons, List.not_mem_nil, or_false] at h
  omega
theorem good_fresh (led : Bool) : GoodT led (SetTable.fresh 0 0 led) 0 :=
  { mask := by show (7 : Nat) ∈ masks; decide, dum := rfl, rise := rising_nil, size := rfl, inb := by simp [SetTable.fresh], led := rfl, plain := rfl, room := by show 0 * 5 < 7 * 3; decide }
theorem Good0.fits {led : Bool} {t : SetTable} {n : Nat} (g : Good0 led t n) (h : n ≤ t.mask) : t.fits n = true := by
  simp [SetTable.fits, SetTable.fill, g.size, g.dum, h]
theorem nodup_of_rising {xs : Array Nat} (h : Rising xs) : xs.toList.Nodup := by
  rw [List.nodup_iff_pairwise_ne, List.pairwise_iff_getElem]
  intro i j hi hj hij
  rw [Array.length_toList] at hi hj
  have := h i j hij hj
  simp only [Array.getD, hi, hj, dif_pos] at this
  simp only [Array.getElem_toList]
  exact Nat.ne_of_lt this
def isEmpty (t : SetTable) (j : Nat) : Prop := t.slot j = .empty
theorem has_nil (j : Nat) : SetTable.has #[] j = false := by simp [SetTable.has]
theorem slot_cases {led : Bool} {t : SetTable} {n : Nat} (g : Good0 led t n) (j : Nat) : (t.slot j = .empty ∧ t.place[SetTable.below t.place j]? ≠ some j) ∨ ∃ i, t.slot j = .live i := by
  unfold SetTable.slot
  dsimp only
  by_cases h : t.place[SetTable.below t.place j]? = some j
  · exact .inr ⟨_, by rw [if_pos (by rw [h]; simp)]⟩
  · refine .inl ⟨?_, h⟩
    rw [if_neg (by simpa using h), g.dum, has_nil]
    rfl
theorem exists_empty {led : Bool} {t : SetTable} {n : Nat} (g : Good0 led t n) (h : n ≤ t.mask) : ∃ j, j < t.mask + 1 ∧ t.slot j = .empty := by
  have key : ∃ j ∈ List.range (t.mask + 1), j ∉ t.place.toList := by
    apply Classical.byContradiction
    intro hn
    have hall : List.range (t.mask + 1) ⊆ t.place.toList := fun j hj => Classical.byContradiction fun hc => hn ⟨j, hj, hc⟩
    have := List.Nodup.length_le_of_subset List.nodup_range hall
    rw [List.length_range, Array.length_toList, g.size] at this
    omega
  obtain ⟨j, hj, hnot⟩ := key
  refine ⟨j, List.mem_range.mp hj, ?_⟩
  rcases slot_cases g j with h | ⟨i, hi⟩
  · exact h.1
  · exfalso
    unfold SetTable.slot at hi
    dsimp only at hi
    split at hi
    · rename_i hq
      have hq' := by simpa using hq
      obtain ⟨h1, h2⟩ := Array.getElem?_eq_some_iff.mp hq'
      exact hnot (h2 ▸ Array.getElem_mem_toList h1)
    · split at hi <;> cases hi
def stt (mask i p : Nat) : SetTable.Probe := { j := i, more := SetTable.runEnd mask i - i, i := i, perturb := p, dummy := none }
theorem go_run {led : Bool} {t : SetTable} {n : Nat} (g : Good0 led t n) {h : Int} {F : Nat} : ∀ (more fuel j i p : Nat), more + 1 + F ≤ fuel →
    (∀ f, F ≤ f → (SetTable.probe.go t (fun _ => h + 1) h f (stt t.mask (SetTable.leap t.mask i p).1 (SetTable.leap t.mask i p).2)).isSome = true) →
    (SetTable.probe.go t (fun _ => h + 1) h fuel { j := j, more := more, i := i, perturb := p, dummy := none }).isSome = true
  | more, 0, j, i, p, hf, _ => by omega
  | more, fuel + 1, j, i, p, hf, k => by
    unfold SetTable.probe.go
    rcases slot_cases g j with e | ⟨i', e⟩
    · rw [e.1]; rfl
    · rw [e]
      dsimp only
      rw [if_neg (by simp; omega)]
      unfold SetTable.advance
      cases more with
      | zero =>
        dsimp only
        rw [if_neg (by omega)]
        exact k fuel (by omega)
      | succ more =>
        dsimp only
        rw [if_pos (by omega)]
        exact go_run g more fuel _ i p (by omega) k
theorem more_le (mask i : Nat) : SetTable.runEnd mask i - i ≤ 9 := by
  unfold SetTable.runEnd; split <;> omega
theorem go_road {led : Bool} {t : SetTable} {n : Nat} (g : Good0 led t n) {h : Int} : ∀ (k fuel i : Nat), 10 * (k + 1) ≤ fuel → t.slot (itx (t.mask + 1) k i) = .empty →
    (SetTable.probe.go t (fun _ => h + 1) h fuel (stt t.mask i 0)).isSome = true
  | 0, 0, i, hf, _ => by omega
  | 0, fuel + 1, i, hf, e => by
    unfold SetTable.probe.go stt
    have e' : t.slot i = .empty := e
    simp only [e']
    rfl
  | k + 1, fuel, i, hf, e => by
    have hm := more_le t.mask i
    refine go_run g (F := 10 * (k + 1)) _ _ _ _ _ (by omega) fun f hF => ?_
    exact go_road g k f _ hF e
theorem probe_some {led : Bool} {t : SetTable} {n : Nat} (g : Good0 led t n) (hn : n ≤ t.mask) {h : Int} (hs : Small h) : (t.probe (fun _ => h + 1) h (t.probeStart h)).isSome = true := by
  obtain ⟨j, hj, he⟩ := exists_empty g hn
  have hb := bits_small hs
  unfold SetTable.probe SetTable.probeStart SetTable.turns
  dsimp only
  generalize SetTable.bits h % (t.mask + 1) = i0
  generalize SetTable.bits h = p0 at hb
  have hm := more_le t.mask i0
  refine go_run g (F := 10 * (t.mask + 13)) _ _ _ _ _ (by omega) fun f hF => ?_
  dsimp only [SetTable.leap]
  generalize (i0 * 5 + 1 + p0 / 32) % (t.mask + 1) = i1
  have hm := more_le t.mask i1
  refine go_run g (F := 10 * (t.mask + 11)) _ _ _ _ _ (by omega) fun f hF => ?_
  dsimp only [SetTable.leap]
  rw [show p0 / 32 / 32 = 0 by omega]
  generalize hi2 : (i1 * 5 + 1 + 0) % (t.mask + 1) = i2
  have h7 := (masks_ge g.mask).1
  have hi3 : i2 < t.mask + 1 := hi2 ▸ Nat.mod_lt _ (by omega)
  obtain ⟨k, hk, e⟩ := cover_masks t.mask g.mask i2 hi3 j hj
  exact go_road g k _ _ (by omega) (e ▸ he)
theorem go_is {led : Bool} {t : SetTable} {n : Nat} (g : Good0 led t n) {h : Int} : ∀ (fuel : Nat) (p : SetTable.Probe) (m : SetTable.Met), p.dummy = none → p.j + p.more ≤ t.mask →
    SetTable.probe.go t (fun _ => h + 1) h fuel p = some m → ∃ j, m = .empty j none ∧ t.place[SetTable.below t.place j]? ≠ some j ∧ j ≤ t.mask
  | 0, p, m, _, _, e => by unfold SetTable.probe.go at e; cases e
  | fuel + 1, p, m, hd, hj, e => by
    unfold SetTable.probe.go at e
    rcases slot_cases g p.j with q | ⟨i', q⟩
    · rw [q.1] at e
      dsimp only at e
      rw [hd] at e
      cases e
      exact ⟨_, rfl, q.2, by omega⟩
    · rw [q] at e
      dsimp only at e
      rw [if_neg (by simp; omega)] at e
      refine go_is g fuel _ m ?_ ?_ e
      · unfold SetTable.advance
        split
        · exact hd
        · exact hd
      · have h7 := (masks_ge g.mask).1
        unfold SetTable.advance
        split
        · dsimp only; omega
        · dsimp only [SetTable.leap]
          generalize hi2 : (p.i * 5 + 1 + p.perturb / 32) % (t.mask + 1) = i2
          have hi3 : i2 < t.mask + 1 := hi2 ▸ Nat.mod_lt _ (by omega)
          unfold SetTable.runEnd
          split <;> omega
theorem freeSlot_good {led : Bool} {t : SetTable} {n : Nat} (g : Good0 led t n) (hn : n ≤ t.mask) {h : Int} (hs : Small h) :
    ∃ j, t.freeSlot h = some (j, false) ∧ t.place[SetTable.below t.place j]? ≠ some j ∧ j ≤ t.mask := by
  obtain ⟨m, hm⟩ := Option.isSome_iff_exists.mp (probe_some g hn hs)
  have h7 := (masks_ge g.mask).1
  obtain ⟨j, rfl, h1, h2⟩ := go_is g _ _ m rfl (by
    dsimp only [SetTable.probeStart]
    generalize hi2 : SetTable.bits h % (t.mask + 1) = i2
    have hi3 : i2 < t.mask + 1 := hi2 ▸ Nat.mod_lt _ (by omega)
    unfold SetTable.runEnd
    split <;> omega) hm
  refine ⟨j, ?_, h1, h2⟩
  unfold SetTable.freeSlot
  rw [hm]
  rfl
theorem put_good {led : Bool} {t : SetTable} {n j : Nat} (g : Good0 led t n) (hj : t.place[SetTable.below t.place j]? ≠ some j) (hle : j ≤ t.mask) : Good0 led (t.put j).1 (n + 1) := by
  have hd : (t.put j).1.dummies = #[] := by
    show (if SetTable.has t.dummies j then _ else t.dummies) = #[]
    rw [g.dum, has_nil]
    rfl
  refine { mask := g.mask, dum := hd, rise := rising_insert g.rise hj, size := ?_, inb := ?_, led := g.led, plain := g.plain }
  · show (SetTable.insertAt t.place _ j).size = _
    rw [← Array.length_toList, (SetTable.insertAt_perm t.place _ j).length_eq]; simp [g.size]
  · intro x hx
    have := (SetTable.insertAt_perm t.place (SetTable.below t.place j) j).mem_iff.mp hx
    rw [Array.toList_push, List.mem_append, List.mem_singleton] at this
    rcases this with h | rfl
    · exact g.inb x h
    · exact hle
theorem layNew_good {led : Bool} {t : SetTable} {es : Array (Int × Value)} {h : Int} {x : Value} (g : Good0 led t es.size) (hn : es.size + 1 ≤ t.mask) (hs : Small h) :
    ∃ es' t', layNew t es h x = (es', t', false, false) ∧ es'.toList.Perm (es.push (h, x)).toList ∧ Good0 led t' (es.size + 1) ∧ t'.mask = t.mask := by
  obtain ⟨j, e, h1, h2⟩ := freeSlot_good g (by omega) hs
  have gp := put_good g h1 h2
  have hsz : (SetTable.insertAt es (t.put j).2 (h, x)).size = es.size + 1 := by
    rw [← Array.length_toList, (SetTable.insertAt_perm es _ _).length_eq]; simp
  have hf : (t.put j).1.fits (SetTable.insertAt es (t.put j).2 (h, x)).size = true := by
    rw [hsz]; exact gp.fits hn
  refine ⟨SetTable.insertAt es (t.put j).2 (h, x), (t.put j).1, ?_, SetTable.insertAt_perm es _ _, gp, rfl⟩
  unfold layNew
  rw [e]
  dsimp only
  rw [hf]
  simp only [SetTable.orStandIn, hf, if_true, Bool.not_true]
theorem hashes_small {es : Array (Int × Value)} (h : ∀ e ∈ es.toList, Small e.1) : ∀ x ∈ (es.map (·.1)).toList, Small x := by
  intro x hx
  rw [Array.toList_map] at hx
  obtain ⟨e, he, rfl⟩ := List.mem_map.mp hx
  exact h e he
theorem relaid_some {t : SetTable} {es : Array (Int × Value)} {wanted : Nat} (hw : wanted < 1024) (hle : es.size ≤ wanted) (hs : ∀ e ∈ es.toList, Small e.1) :
    ∃ t' order, t.relaid (es.map (·.1)) wanted = some (t', order) ∧ order.toList.Perm (List.range es.size) ∧ Good0 t.led { t' with plain := true } es.size ∧ t'.plain = t.plain ∧ t'.mask = SetTable.sizeAbove wanted - 1 ∧ wanted ≤ t'.mask := by
  obtain ⟨h1, h2, h3⟩ := sizeAbove_mem hw
  obtain ⟨t', order, e, hp, a, b, c, d, f, g', i⟩ := laid_some (finger := t.finger) (moves := t.movedTo (SetTable.sizeAbove wanted - 1)) (led := t.led) (plain := t.plain) h1 (hashes_small hs) (by rw [Array.size_map]; omega)
  rw [Array.size_map] at hp c
  refine ⟨t', order, e, hp, ?_, g', a, by omega⟩
  exact { mask := by show t'.mask ∈ masks; rw [a]; exact h1, dum := d, rise := b, size := c, inb := by show ∀ x ∈ t'.place.toList, x ≤ t'.mask; rw [a]; exact i, led := f, plain := rfl }
theorem grown_eq {n : Nat} (h : n ≤ 50000) : SetTable.grown n = n * 4 := by unfold SetTable.grown; rw [if_neg (by omega)]
theorem relayAll_good {led : Bool} {t : SetTable} {es : Array (Int × Value)} (g : Good0 led t es.size) (h0 : 0 < es.size) (hn : es.size ≤ 255) (hs : ∀ e ∈ es.toList, Small e.1) :
    ∃ es' t', relayAll t es (SetTable.grown es.size) = (es', t', false) ∧ es'.toList.Perm es.toList ∧ GoodT led t' es.size := by
  rw [grown_eq (by omega)]
  obtain ⟨t', order, e, hp, gt, hpl, hmk, hw⟩ := relaid_some (t := t) (es := es) (wanted := es.size * 4) (by omega) (by omega) hs
  have hpp := reorder_perm hp
  have hsz : (order.filterMap (es[·]?)).size = es.size := by rw [← Array.length_toList, hpp.length_eq, Array.length_toList]
  have hpl' : t'.plain = true := by rw [hpl]; exact g.plain
  have e2 : ({ t' with plain := true } : SetTable) = t' := by rw [← hpl']
  rw [e2, g.led] at gt
  have hf : t'.fits es.size = true := gt.fits (by omega)
  have hcov : coversAll order es.size = true := by unfold coversAll; exact List.isPerm_iff.mpr hp
  refine ⟨order.filterMap (es[·]?), t', ?_, hpp, { gt with room := by omega }⟩
  unfold relayAll
  rw [e]
  dsimp only
  rw [hsz, hf, hcov]
  rfl
end Mine
end
section
open PySem PySem.W PyProof.Rows
namespace Mine
theorem hash_nat : ∀ k < 152, (hashInt ((k : Nat) : Int) == (k : Int)) = true := by decide +kernel
theorem hash_small {k : Int} (h0 : 0 ≤ k) (h1 : k < 152) : hashInt k = k := by
  obtain ⟨n, rfl⟩ := Int.eq_ofNat_of_zero_le h0
  exact beq_iff_eq.mp (hash_nat n (by omega))
def key (e : Int × Value) : Int := match e.2 with
  | .int k _ => k
  | _ => 0
structure Ents (es : List (Int × Value)) (P : Int → Bool) : Prop where
  int : ∀ e ∈ es, e.1 = hashInt (key e) ∧ ∃ tk, e.2 = .int (key e) tk
  nodup : (es.map key).Nodup
  mem : ∀ k, P k = true ↔ k ∈ es.map key
  small : ∀ k, P k = true → 0 ≤ k ∧ k < 152
theorem Ents.nil : Ents [] (fun _ => false) := ⟨by simp, by simp, by simp, by simp⟩
theorem Ents.perm {es es' : List (Int × Value)} {P : Int → Bool} (h : Ents es P) (p : es'.Perm es) : Ents es' P :=
  ⟨fun e he => h.int e (p.mem_iff.mp he), (p.map key).nodup_iff.mpr h.nodup, fun k => (h.mem k).trans (p.map key).mem_iff.symm, h.small⟩
theorem Ents.len {es : List (Int × Value)} {P : Int → Bool} (h : Ents es P) : es.length ≤ 152 := by
  have hsub : (es.map key) ⊆ (List.range 152).map (fun (n : Nat) => (n : Int)) := fun k hk => by
    have := h.small k ((h.mem k).mpr hk)
    exact List.mem_map.mpr ⟨k.toNat, List.mem_range.mpr (by omega), by omega⟩
  have := List.Nodup.length_le_of_subset h.nodup hsub
  simpa using this
theorem Ents.congr {es : List (Int × Value)} {P P' : Int → Bool} (h : Ents es P) (e : ∀ k, P' k = P k) : Ents es P' := by
  have : P' = P := funext e
  subst this; exact h
theorem Ents.at {es : List (Int × Value)} {P : Int → Bool} (h : Ents es P) {e : Int × Value} (he : e ∈ es) : P (key e) = true := (h.mem _).mpr (List.mem_map.mpr ⟨e, he, rfl⟩)
theorem Ents.smallHash {es : List (Int × Value)} {P : Int → Bool} (h : Ents es P) : ∀ e ∈ es, Small e.1 := fun e he => by
  have hs := h.small _ (h.at he)
  rw [(h.int e he).1, hash_small hs.1 hs.2]
  exact ⟨hs.1, by omega⟩
theorem Ents.push {es : List (Int × Value)} {P : Int → Bool} (h : Ents es P) {k : Int} {tk : Tok} (h0 : 0 ≤ k) (h1 : k < 152) (hk : P k = false) : Ents (es ++ [(hashInt k, .int k tk)]) (fun j => P j || decide (j = k)) := by
  refine ⟨fun e he => ?_, ?_, fun j => ?_, fun j hj => ?_⟩
  · rcases List.mem_append.mp he with he | he
    · exact h.int e he
    · rw [List.mem_singleton.mp he]; exact ⟨rfl, tk, rfl⟩
  · rw [List.map_append, List.nodup_append]
    refine ⟨h.nodup, by simp, fun a ha b hb => ?_⟩
    rintro rfl
    have : a = k := by simpa [key] using hb
    subst this
    rw [(h.mem a).mpr ha] at hk
    cases hk
  · rw [List.map_append, List.mem_append, Bool.or_eq_true, decide_eq_true_eq, h.mem]
    simp [key]
  · rw [Bool.or_eq_true, decide_eq_true_eq] at hj
    rcases hj with hj | rfl
    · exact h.small j hj
    · exact ⟨h0, h1⟩
theorem Ents.erase {es : List (Int × Value)} {P : Int → Bool} (h : Ents es P) {e : Int × Value} {r : List (Int × Value)} (p : es.Perm (e :: r)) : Ents r (fun j => P j && !decide (j = key e)) := by
  have h' := h.perm p.symm
  have hnd := h'.nodup
  rw [List.map_cons, List.nodup_cons] at hnd
  refine ⟨fun x hx => h'.int x (.tail _ hx), hnd.2, fun j => ?_, fun j hj => h.small j (by rw [Bool.and_eq_true] at hj; exact hj.1)⟩
  rw [Bool.and_eq_true, h'.mem, List.map_cons, List.mem_cons, Bool.not_eq_true', decide_eq_false_iff_not]
  constructor
  · rintro ⟨h1, h2⟩; exact h1.resolve_left h2
  · intro h1; exact ⟨.inr h1, fun e => hnd.1 (e ▸ h1)⟩
def SetS (g led : Bool) (o : Obj) (P : Int → Bool) : Prop :=
  o.ExactSet ∧ ∃ es ep t, o.data = .set es ep t ∧ Ents es.toList P ∧ t.fits es.size = true ∧ t.led = led ∧ (t.fill = 0 → t.mask ∈ masks) ∧ (g = true → GoodT led t es.size)
theorem SetS.weak {g led : Bool} {o : Obj} {P : Int → Bool} (h : SetS g led o P) : SetS false led o P :=
  let ⟨a, es, ep, t, b, c, d, e, f, _⟩ := h; ⟨a, es, ep, t, b, c, d, e, f, fun x => nomatch x⟩
theorem SetS.congr {g led : Bool} {o : Obj} {P P' : Int → Bool} (h : SetS g led o P) (e : ∀ k, P' k = P k) : SetS g led o P' := by
  have : P' = P := funext e
  subst this; exact h
def freshSet (led : Bool) : Obj := { cls := .type "set", dict := none, data := .set #[] 0 (.fresh 0 0 led) }
theorem setS_fresh (led : Bool) : SetS true led (freshSet led) (fun _ => false) :=
  ⟨⟨rfl, rfl, rfl⟩, #[], 0, _, rfl, Ents.nil, by rfl, rfl, (fun _ => by show (7 : Nat) ∈ masks; decide), fun _ => good_fresh led⟩
theorem Ents.elems {prog : Program} {w : World} {es : List (Int × Value)} {P : Int → Bool} (h : Ents es P) : ElemsOf (intKind prog w) es := fun e he => by
  obtain ⟨h1, tk, h2⟩ := h.int e he
  refine ⟨⟨key e, ?_, h1⟩, ?_⟩
  · rw [h2]; exact intKind_is _ _ _ _
  · rw [h2]; rfl
theorem SetS.objOf {prog : Program} {w : World} {g led : Bool} {o : Obj} {P : Int → Bool} (h : SetS g led o P) : ∃ n, n ≤ 152 ∧ o.SetObjOf (intKind prog w) P n := by
  obtain ⟨hex, es, ep, t, hd, E, hf, _, _, _⟩ := h
  refine ⟨es.size, by have := E.len; rwa [Array.length_toList] at this, hex, es, ep, t, hd, E.elems, fun k => ?_, rfl, hf⟩
  rw [E.mem, List.mem_map]
  constructor
  · rintro ⟨e, he, rfl⟩
    obtain ⟨_, tk, h2⟩ := E.int e he
    exact ⟨e, he, by rw [h2]; exact intKind_is _ _ _ _⟩
  · rintro ⟨e, he, hk⟩
    obtain ⟨_, tk, h2⟩ := E.int e he
    refine ⟨e, he, ?_⟩
    rw [h2] at hk
    simp only [intKind, Value.isInt, beq_iff_eq] at hk
    exact hk
theorem fill_pos {t : SetTable} {n : Nat} {p : Prop} (h : t.fits n = true) (hn : 0 < n) : t.fill = 0 → p := fun h0 => by
  simp only [SetTable.fits, Bool.and_eq_true, beq_iff_eq] at h
  unfold SetTable.fill at h0
  omega
theorem layNew_led (t : SetTable) (es : Array (Int × Value)) (h : Int) (x : Value) : (layNew t es h x).2.1.led = t.led := by
  unfold layNew
  split
  · dsimp only [SetTable.orStandIn]
    split <;> rfl
  · rfl
theorem relaid_led {t t' : SetTable} {hs : Array Int} {wanted : Nat} {o : Array Nat} (h : t.relaid hs wanted = some (t', o)) : t'.led = t.led := by
  unfold SetTable.relaid SetTable.laid at h
  cases hc : SetTable.layClean (SetTable.sizeAbove wanted - 1) hs with
  | none => rw [hc] at h; simp at h
  | some owner =>
    rw [hc] at h
    simp only [Option.pure_def, Option.bind_eq_bind, Option.bind_some, Option.some.injEq, Prod.mk.injEq] at h
    rw [← h.1]
theorem relayAll_led (t : SetTable) (es : Array (Int × Value)) (wanted : Nat) : (relayAll t es wanted).2.1.led = t.led := by
  unfold relayAll
  split
  · rename_i t' order he
    dsimp only
    split
    · exact relaid_led he
    · rfl
  · rfl
section
variable {prog : Program} {w : World} {A : Around} {E : Value → Shared → Prop} {s : Shared} {a : Addr} {o : Obj} {P : Int → Bool} {g led : Bool}
theorem find_key {es : List (Int × Value)} {k : Int} (hE : ∀ e ∈ es, ∃ tk, e.2 = .int (key e) tk) : es.findIdx? (fun e => (intKind prog w).is k e.2) = es.findIdx? (fun e => key e == k) := by
  induction es with
  | nil => rfl
  | cons e r ih =>
    obtain ⟨tk, h2⟩ := hE e (.head _)
    have h3 : (intKind prog w).is k e.2 = (key e == k) := by rw [h2]; simp [intKind, Value.isInt, key]
    rw [List.findIdx?_cons, List.findIdx?_cons, ih fun x hx => hE x (.tail _ hx), h3]
theorem setFind_w {es : Array (Int × Value)} {ep : Nat} {t : SetTable} {k : Int} {tk : Tok} {Q : Option Nat → Shared → Prop} (ho : s.heap.get? a = some o) (hd : o.data = .set es ep t) (hE : Ents es.toList P) (hf : t.fits es.size = true)
    (h : Q (es.toList.findIdx? (fun e => key e == k)) s) : wpAny (model prog w) A (setFind a (.int k tk) (hashInt k)) Q E s := by
  have hb : es.size < scanBound := by have := hE.len; rw [Array.length_toList] at this; unfold scanBound; omega
  unfold setFind setFindIn
  refine wpAny_bind (wpAny_setState_of ho hd hf ?_)
  dsimp only
  rw [byScan_of (knd := intKind prog w) rfl hb hE.elems]
  simp only [↓reduceIte]
  refine wpAny_bind (wpAny_rule ?_)
  refine wpAny_bind (wpAny_setScan_of (knd := intKind prog w) (k := k) (intKind_is _ _ _ _) ho hd hf hE.elems ?_)
  rw [find_key fun e he => (hE.int e he).2]
  cases hr : List.findIdx? (fun e => key e == k) es.toList with
  | none => rw [hr] at h; exact wpAny_pure h
  | some j => rw [hr] at h; dsimp only; rw [Nat.zero_add]; exact wpAny_pure h
theorem find_none {es : List (Int × Value)} (hE : Ents es P) {k : Int} : es.findIdx? (fun e => key e == k) = none ↔ P k = false := by
  rw [List.findIdx?_eq_none_iff]
  constructor
  · intro h
    cases hk : P k with
    | false => rfl
    | true =>
      obtain ⟨e, he, rfl⟩ := List.mem_map.mp ((hE.mem k).mp hk)
      have := h e he
      simp at this
  · intro h e he
    cases hk : key e == k with
    | false => rfl
    | true =>
      have := hE.at he
      rw [beq_iff_eq.mp hk, h] at this
      cases this
theorem find_isSome {es : List (Int × Value)} (hE : Ents es P) (k : Int) : (es.findIdx? (fun e => key e == k)).isSome = P k := by
  cases hr : es.findIdx? (fun e => key e == k) with
  | none => rw [find_none hE] at hr; rw [hr]; rfl
  | some j =>
    cases hk : P k with
    | true => rfl
    | false => rw [← find_none hE, hr] at hk; cases hk
theorem store_get {h : Heap} {es es' : Array (Int × Value)} {ep : Nat} {t t' : SetTable} (ho : h.get? a = some o) (hd : o.data = .set es ep t) :
    (h.update a (Obj.putSet es' t')).get? a = some { o with data := .set es' (ep + 1) t' } := by
  have := Heap.get?_update_self (Obj.putSet es' t') ho (by rw [putSet_of es' t' hd]; rfl)
  rw [putSet_of es' t' hd] at this
  exact this
theorem setAdd_w {k : Int} {tk : Tok} {Q : Bool → Shared → Prop} (ho : s.heap.get? a = some o) (hS : SetS g led o P) (h0 : 0 ≤ k) (h1 : k < 152)
    (h : ∀ h' o', Heap.SameBut a s.heap h' → h'.get? a = some o' → SetS g led o' (fun j => P j || decide (j = k)) → Q (!P k) { s with heap := h' }) :
    wpAny (model prog w) A (setAddHashed a (.int k tk) (hashInt k)) Q E s := by
  obtain ⟨hex, es, ep, t, hd, hE, hf, hl, hmk, hg⟩ := hS
  have hlen := hE.len
  rw [Array.length_toList] at hlen
  have hb : es.size < scanBound := by unfold scanBound; omega
  unfold setAddHashed setAddHashedIn
  refine wpAny_holding (wpAny_bind (wpAny_setState_of ho hd hf ?_))
  dsimp only
  rw [byScan_of (knd := intKind prog w) rfl hb hE.elems]
  simp only [↓reduceIte]
  unfold setAddByScan
  refine wpAny_bind ?_
  refine wpAny_bind (wpAny_rule ?_)
  refine wpAny_bind (wpAny_setScan_of (knd := intKind prog w) (k := k) (intKind_is _ _ _ _) ho hd hf hE.elems ?_)
  rw [find_key fun e he => (hE.int e he).2]
  cases hr : List.findIdx? (fun e => key e == k) es.toList with
  | some j =>
    dsimp only
    have hk : P k = true := by rw [← find_isSome hE k, hr]; rfl
    refine wpAny_pure (wpAny_pure ?_)
    have e : s = { s with heap := s.heap } := by cases s; rfl
    have := h s.heap o (Heap.SameBut.refl a s.heap) ho (SetS.congr ⟨hex, es, ep, t, hd, hE, hf, hl, hmk, hg⟩ fun j => by
      by_cases e : j = k
      · subst e; rw [hk]; rfl
      · rw [decide_eq_false e, Bool.or_false])
    rw [hk] at this; rw [e]; exact this
  | none =>
    dsimp only
    have hk : P k = false := (find_none hE).mp hr
    have hgw : ∀ (b : Bool) {s₁ : Shared} {Q' : Unit → Shared → Prop}, Q' () s₁ → wpAny (model prog w) A (match b with | true => rule "set.scan.the-table-gave-way" | false => pure ()) Q' E s₁ :=
      fun b s₁ Q' hq => by cases b <;> first | exact wpAny_pure hq | exact wpAny_rule hq
    have hperm := layNew_perm t es (hashInt k) (.int k tk)
    have hfits := layNew_fits t es (hashInt k) (.int k tk)
    have hled := layNew_led t es (hashInt k) (.int k tk)
    have hsm : Small (hashInt k) := by rw [hash_small h0 h1]; exact ⟨h0, by omega⟩
    have hgood : g = true → (layNew t es (hashInt k) (.int k tk)).2.2.1 = false ∧ Good0 led (layNew t es (hashInt k) (.int k tk)).2.1 (es.size + 1) := fun hgt => by
      have gt := hg hgt
      have h7 := (masks_ge gt.mask).1
      obtain ⟨es', t', e, _, g0, _⟩ := layNew_good (x := .int k tk) gt.toGood0 (by have := gt.room; omega) hsm
      rw [e]; exact ⟨rfl, g0⟩
    generalize layNew t es (hashInt k) (.int k tk) = L at hperm hfits hled hgood ⊢
    obtain ⟨es1, t1, wasDummy, gave⟩ := L
    dsimp only at hperm hfits hled hgood ⊢
    rw [Array.toList_push] at hperm
    have hE1 := (hE.push (tk := tk) h0 h1 hk).perm hperm
    have hsz1 : es1.size = es.size + 1 := by rw [← Array.length_toList, hperm.length_eq, List.length_append, Array.length_toList]; rfl
    have hlen1 := hE1.len
    rw [Array.length_toList] at hlen1
    refine wpAny_bind (hgw _ ?_)
    have hmain : ∀ t2 : SetTable, t2.fits es1.size = true → t2.led = led → (g = true → wasDummy = false ∧ Good0 led t2 es1.size) →
        wpAny (model prog w) A (do
          storeSet a es1 t2
          if (!wasDummy && t2.tooFull) = true then do
              (match (relayAll t2 es1 (SetTable.grown es1.size)).2.2 with | true => rule "set.scan.the-table-gave-way" | false => pure ())
              storeSet a (relayAll t2 es1 (SetTable.grown es1.size)).1 (relayAll t2 es1 (SetTable.grown es1.size)).2.1
              pure (some true)
            else pure (some true)) (fun r s' => r = some true ∧ Q true s') E s := by
      intro t2 hf2 hl2 hg2
      refine wpAny_bind (wpAny_storeSet_of ho hd ?_ (fits_of_scanBound (by unfold scanBound; omega)))
      have ho1 := store_get (es' := es1) (t' := t2) ho hd
      have hsb1 := Heap.SameBut.update s.heap a (Obj.putSet es1 t2)
      split
      · rename_i hfull
        rw [Bool.and_eq_true, Bool.not_eq_true'] at hfull
        have hp := relayAll_perm t2 es1 (SetTable.grown es1.size)
        have hfr := relayAll_fits t2 es1 (SetTable.grown es1.size)
        have hlr := relayAll_led t2 es1 (SetTable.grown es1.size)
        have hgr : g = true → GoodT led (relayAll t2 es1 (SetTable.grown es1.size)).2.1 es1.size := fun hgt => by
          obtain ⟨es', t', e, _, gt⟩ := relayAll_good (hg2 hgt).2 (by omega) (by omega) hE1.smallHash
          rw [e]; exact gt
        generalize relayAll t2 es1 (SetTable.grown es1.size) = Rl at hp hfr hlr hgr ⊢
        obtain ⟨es2, t3, gave2⟩ := Rl
        dsimp only at hp hfr hlr hgr ⊢
        have hsz : es2.size = es1.size := by rw [← Array.length_toList, hp.length_eq, Array.length_toList]
        refine wpAny_bind (hgw _ ?_)
        refine wpAny_bind (wpAny_storeSet_of ho1 rfl ?_ (fits_of_scanBound (by unfold scanBound; omega)))
        have ho2 := store_get (es' := es2) (t' := t3) ho1 rfl
        refine wpAny_pure ⟨rfl, ?_⟩
        have := h _ _ (hsb1.trans (Heap.SameBut.update _ a _)) ho2 ⟨hex, es2, _, t3, rfl, hE1.perm hp, hfr, hlr.trans hl2, fill_pos hfr (by omega), fun hgt => hsz ▸ hgr hgt⟩
        rw [hk] at this
        exact this
      · rename_i hfull
        refine wpAny_pure ⟨rfl, ?_⟩
        have hroom : g = true → es1.size * 5 < t2.mask * 3 := fun hgt => by
          have hw := (hg2 hgt).1
          rw [hw, Bool.not_false, Bool.true_and] at hfull
          have gz := (hg2 hgt).2
          simp only [SetTable.tooFull, SetTable.fill, gz.size, gz.dum, ge_iff_le, decide_eq_true_eq] at hfull
          simp only [List.size_toArray, List.length_nil, Nat.add_zero] at hfull
          omega
        have := h _ _ hsb1 ho1 ⟨hex, es1, _, t2, rfl, hE1, hf2, hl2, fill_pos hf2 (by omega), fun hgt => { (hg2 hgt).2 with room := hroom hgt }⟩
        rw [hk] at this
        exact this
    have hfin : ∀ r s', (r = some true ∧ Q true s') → wpAny (model prog w) A (match r with | some added => pure added | none => setAddHashedIn a (.int k tk) (hashInt k) 99999) Q E s' := by
      rintro r s' ⟨rfl, hq⟩
      exact wpAny_pure hq
    split
    · rename_i hpl
      refine wpAny_bind ?_
      rw [hashByValue_scannable 8 rfl]
      refine wpAny_pure ?_
      refine wpAny_mono (hmain t1 hfits (hled.trans hl) fun hgt => by rw [hsz1]; exact hgood hgt) hfin fun _ _ h => h
    · refine wpAny_bind (wpAny_pure ?_)
      simp only [↓reduceIte]
      refine wpAny_mono (hmain t1 hfits (hled.trans hl) fun hgt => by rw [hsz1]; exact hgood hgt) hfin fun _ _ h => h
end
end Mine
end
section
open PySem PySem.W PyProof.Rows
namespace Mine
def HSet (h : Heap) (a : Addr) (g led : Bool) (P : Int → Bool) : Prop := ∃ o, h.get? a = some o ∧ SetS g led o P
theorem HSet.weak {h : Heap} {a : Addr} {g led : Bool} {P : Int → Bool} (x : HSet h a g led P) : HSet h a false led P := let ⟨o, a, b⟩ := x; ⟨o, a, b.weak⟩
theorem HSet.congr {h : Heap} {a : Addr} {g led : Bool} {P P' : Int → Bool} (x : HSet h a g led P) (e : ∀ k, P' k = P k) : HSet h a g led P' := let ⟨o, a, b⟩ := x; ⟨o, a, b.congr e⟩
theorem HSet.same {h h' : Heap} {a b : Addr} {g led : Bool} {P : Int → Bool} (x : HSet h a g led P) (hs : Heap.SameBut b h h') (hab : a ≠ b) : HSet h' a g led P :=
  let ⟨o, p, q⟩ := x; ⟨o, (hs.2 a hab).trans p, q⟩
section
variable {prog : Program} {w : World} {A : Around} {E : Value → Shared → Prop} {s : Shared} {a b d : Addr} {o oa ob od : Obj} {P P' : Int → Bool} {g g' g₂ led : Bool}
theorem HSet.typeIs (h : HSet s.heap a g led P) : s.TypeIs (.ref a) "set" := let ⟨o, ho, hS⟩ := h; ⟨o, ho, hS.1.1⟩
theorem forIn_w {α β : Type} {f : α → β → Sem (ForInStep β)} {Q : β → Shared → Prop} (I : List α → β → Shared → Prop) :
    ∀ (xs done : List α) (b : β) (s : Shared), I done b s →
    (∀ (dn : List α) (x : α) (rest : List α) (b : β) (s : Shared), done ++ xs = dn ++ x :: rest → I dn b s → wpAny (model prog w) A (f x b) (fun r s' => ∃ b', r = .yield b' ∧ I (dn ++ [x]) b' s') E s) →
    (∀ (b : β) (s : Shared), I (done ++ xs) b s → Q b s) → wpAny (model prog w) A (forIn xs b f) Q E s
  | [], done, b, s, hI, _, hQ => by rw [List.forIn_nil]; exact wpAny_pure (hQ b s (by rwa [List.append_nil]))
  | x :: r, done, b, s, hI, hs, hQ => by
    rw [List.forIn_cons]
    refine wpAny_bind (wpAny_mono (hs done x r b s rfl hI) (fun y s' hy => ?_) fun _ _ h => h)
    obtain ⟨b', rfl, hI'⟩ := hy
    exact forIn_w I r (done ++ [x]) b' s' hI' (fun dn x rest b s e => hs dn x rest b s (by rw [← e, List.append_assoc]; rfl)) (fun b s h => hQ b s (by rwa [List.append_assoc] at h))
theorem isAnySet_w {Q : Bool → Shared → Prop} (hS : HSet s.heap a g led P) (h : Q true s) : wpAny (model prog w) A (Builtin.Frozenset.isAnySet (.ref a)) Q E s := by
  unfold Builtin.Frozenset.isAnySet
  show wpAny _ _ (isInstance (.ref a) (.type "set") >>= fun b => _) _ _ _
  refine wpAny_bind (wpAny_isInstance hS.typeIs sub_set_self ?_)
  exact wpAny_pure h
theorem baseOf_w {Q : Value → Shared → Prop} (hS : HSet s.heap a g led P) (h : Q (.type "set") s) : wpAny (model prog w) A (Builtin.Frozenset.baseOf a) Q E s := by
  unfold Builtin.Frozenset.baseOf
  refine wpAny_bind (wpAny_isInstance hS.typeIs sub_set_self ?_)
  exact wpAny_pure h
theorem byText_w {Q : Bool → Shared → Prop} (h : Q (w.params.followText "set-order") s) : wpAny (model prog w) A setsByText Q E s := by
  unfold setsByText
  exact wpAny_bind (wpAny_askSetting (wpAny_pure h))
theorem newSet_w {Q : Value → Shared → Prop} (h : Q (.ref s.heap.objs.size) { s with heap := s.heap.push (freshSet (!w.params.followText "set-order")) }) :
    wpAny (model prog w) A (newSet (.type "set")) Q E s := by
  unfold newSet
  refine wpAny_bind (byText_w ?_)
  dsimp only
  simp only [newObj]
  exact wpAny_bind (wpAny_alloc (wpAny_pure h))
theorem setEpoch_w {Q : Nat → Shared → Prop} {es : Array (Int × Value)} {ep : Nat} {t : SetTable} (ho : s.heap.get? a = some o) (hd : o.data = .set es ep t) (hf : t.fits es.size = true) (h : Q ep s) :
    wpAny (model prog w) A (setEpoch a) Q E s := wpAny_setEpoch_of ho hd hf h
theorem sizeOf_w {Q : Nat → Shared → Prop} {es : Array (Int × Value)} {ep : Nat} {t : SetTable} (ho : s.heap.get? a = some o) (hd : o.data = .set es ep t) (hf : t.fits es.size = true) (h : Q es.size s) :
    wpAny (model prog w) A (Builtin.Frozenset.sizeOf a) Q E s := by
  unfold Builtin.Frozenset.sizeOf
  exact wpAny_bind (wpAny_setEntries_of ho hd hf (wpAny_pure h))
theorem quiet_w {Q : Bool → Shared → Prop} (l : List Addr) (hl : ∀ x ∈ l, ∃ g led P, HSet s.heap x g led P) (h : Q true s) : wpAny (model prog w) A (setsQuiet l) Q E s := by
  unfold setsQuiet
  refine wpAny_bind (forIn_w (fun dn b s' => b = (none, ()) ∧ s' = s) l [] _ s ⟨rfl, rfl⟩ ?_ ?_)
  · rintro dn x rest b s' e ⟨rfl, rfl⟩
    obtain ⟨g, led, P, o, ho, hex, es, ep, t, hd, hE, hf, hl', hmk, hg⟩ := hl x (by rw [List.nil_append] at e; rw [e]; simp)
    refine wpAny_bind (wpAny_setEntries_of ho hd hf ?_)
    rw [← Array.forIn_toList]
    refine wpAny_bind (forIn_w (fun dn b s'' => b = (none, ()) ∧ s'' = s') es.toList [] _ s' ⟨rfl, rfl⟩ ?_ ?_)
    · rintro dn ⟨h', y⟩ rest b s'' e ⟨rfl, rfl⟩
      obtain ⟨_, tk, h2⟩ := hE.int (h', y) (by rw [List.nil_append] at e; rw [e]; simp)
      dsimp only at h2 ⊢
      rw [h2]
      exact wpAny_pure ⟨_, rfl, rfl, rfl⟩
    · rintro b s'' ⟨rfl, rfl⟩
      exact wpAny_pure ⟨_, rfl, rfl, rfl⟩
  · rintro b s' ⟨rfl, rfl⟩
    exact wpAny_pure h
theorem cons_erase_perm {α : Type} : ∀ {l : List α} {n : Nat} (h : n < l.length), (l[n] :: l.eraseIdx n).Perm l
  | x :: r, 0, _ => .refl _
  | x :: r, n + 1, h => by
    rw [List.getElem_cons_succ, List.eraseIdx_cons_succ]
    exact (List.Perm.swap ..).trans ((cons_erase_perm (by simpa using h)).cons x)
theorem pick_perm {α : Type} (next : Nat → Nat) : ∀ (fuel k : Nat) (left : List α) (out : Array α), left.length ≤ fuel → (pickOrder.go next fuel k left out).toList.Perm (out.toList ++ left)
  | 0, k, left, out, h => by
    have : left = [] := List.eq_nil_of_length_eq_zero (by omega)
    subst this
    unfold pickOrder.go; simp
  | fuel + 1, k, left, out, h => by
    unfold pickOrder.go
    cases left with
    | nil => simp
    | cons y r =>
      have hlt : next k % (y :: r).length < (y :: r).length := Nat.mod_lt _ (by simp)
      rw [List.getElem?_eq_getElem hlt]
      dsimp only
      refine (pick_perm next fuel (k + 1) _ _ (by rw [List.length_eraseIdx_of_lt hlt]; omega)).trans ?_
      rw [Array.toList_push, List.append_assoc]
      refine List.Perm.append_left _ ?_
      rw [List.singleton_append]
      exact cons_erase_perm hlt
theorem pickOrder_perm {α : Type} (next : Nat → Nat) (xs : Array α) : (pickOrder next xs).toList.Perm xs.toList := by
  unfold pickOrder
  simpa using pick_perm next xs.size 0 xs.toList #[] (by simp)
theorem walkUnseen_w {Q : Array (Int × Value) → Shared → Prop} {others : List Addr} {es : Array (Int × Value)} {ep : Nat} {t : SetTable} (ho : s.heap.get? a = some o) (hd : o.data = .set es ep t) (hS : SetS g led o P)
    (hled : led = !w.params.followText "set-order") (hothers : ∀ x ∈ others, ∃ g led P, HSet s.heap x g led P)
    (h : ∀ es', es'.toList.Perm es.toList → Q es' s) : wpAny (model prog w) A (setWalkUnseen a others none) Q E s := by
  have hS' := hS
  obtain ⟨hex, es', ep', t', hd', hE, hf, hl, hmk, hg⟩ := hS
  rw [hd] at hd'; cases hd'
  have hwalk : (w.params.followText "set-order" || t.led && t.plain || decide (es.size ≤ 1)) = true → wpAny (model prog w) A (setWalk a) Q E s := by
    intro hc
    unfold setWalk
    refine wpAny_bind (wpAny_setState_of ho hd hf ?_)
    dsimp only
    refine wpAny_bind (byText_w ?_)
    split
    · refine wpAny_bind (wpAny_askSetting (wpAny_pure ?_))
      exact h _ (pickOrder_perm _ _)
    · rename_i hb
      have hb' : w.params.followText "set-order" = false := by simpa using hb
      have hled' : t.led = true := by rw [hl, hled, hb']; rfl
      have hdr : (!t.plain && decide (es.size > 1)) = false := by
        rw [hb', hled'] at hc
        simp only [Bool.false_or, Bool.true_and, Bool.or_eq_true, decide_eq_true_eq] at hc
        rcases hc with hc | hc
        · rw [hc]; rfl
        · simp; omega
      show wpAny _ _ (if (!t.plain && decide (es.size > 1)) = true then _ else ((if (!t.led && decide (es.size > 1)) = true then unsupported "set:maker-not-led" else pure ()) >>= fun _ => pure es)) _ _ _
      rw [hdr, hled']
      simp only [Bool.not_true, Bool.false_and, Bool.false_eq_true, if_false]
      exact wpAny_bind (wpAny_pure (wpAny_pure (h es (.refl _))))
  unfold setWalkUnseen
  refine wpAny_bind (wpAny_setState_of ho hd hf ?_)
  dsimp only
  refine wpAny_bind (byText_w ?_)
  split
  · rename_i hc
    exact hwalk hc
  · rename_i hc
    have hqu : ∀ x ∈ a :: others, ∃ g led P, HSet s.heap x g led P := by
      intro x hx
      rcases List.mem_cons.mp hx with rfl | hx
      · exact ⟨_, _, _, o, ho, hS'⟩
      · exact hothers x hx
    refine wpAny_bind (quiet_w _ hqu ?_)
    simp only [Bool.not_true, Bool.false_eq_true, if_false]
    refine wpAny_bind (wpAny_rule ?_)
    exact wpAny_pure (h es (.refl _))
theorem walkUnseenF_w {Q : Array (Int × Value) → Shared → Prop} {others : List Addr} {es : Array (Int × Value)} {ep : Nat} {t : SetTable} (ho : s.heap.get? a = some o) (hd : o.data = .set es ep t) (hS : SetS g led o P)
    (hled : led = !w.params.followText "set-order") (hothers : ∀ x ∈ others, ∃ g led P, HSet s.heap x g led P) (hd' : HSet s.heap d g' led P')
    (h : ∀ es' h', es'.toList.Perm es.toList → Heap.SameBut d s.heap h' → HSet h' d false led P' → Q es' { s with heap := h' }) : wpAny (model prog w) A (setWalkUnseen a others (some d)) Q E s := by
  have hS' := hS
  obtain ⟨hex, es', ep', t', hd₂, hE, hf, hl, hmk, hg⟩ := hS
  rw [hd] at hd₂; cases hd₂
  have hstay : ∀ es' : Array (Int × Value), es'.toList.Perm es.toList → Q es' s := fun es' hp => h es' s.heap hp (Heap.SameBut.refl ..) hd'.weak
  have hwalk : (w.params.followText "set-order" || t.led && t.plain || decide (es.size ≤ 1)) = true → wpAny (model prog w) A (setWalk a) Q E s := by
    intro hc
    unfold setWalk
    refine wpAny_bind (wpAny_setState_of ho hd hf ?_)
    dsimp only
    refine wpAny_bind (byText_w ?_)
    split
    · refine wpAny_bind (wpAny_askSetting (wpAny_pure ?_))
      exact hstay _ (pickOrder_perm _ _)
    · rename_i hb
      have hb' : w.params.followText "set-order" = false := by simpa using hb
      have hled' : t.led = true := by rw [hl, hled, hb']; rfl
      have hdr : (!t.plain && decide (es.size > 1)) = false := by
        rw [hb', hled'] at hc
        simp only [Bool.false_or, Bool.true_and, Bool.or_eq_true, decide_eq_true_eq] at hc
        rcases hc with hc | hc
        · rw [hc]; rfl
        · simp; omega
      show wpAny _ _ (if (!t.plain && decide (es.size > 1)) = true then _ else ((if (!t.led && decide (es.size > 1)) = true then unsupported "set:maker-not-led" else pure ()) >>= fun _ => pure es)) _ _ _
      rw [hdr, hled']
      simp only [Bool.not_true, Bool.false_and, Bool.false_eq_true, if_false]
      exact wpAny_bind (wpAny_pure (wpAny_pure (hstay es (.refl _))))
  unfold setWalkUnseen
  refine wpAny_bind (wpAny_setState_of ho hd hf ?_)
  dsimp only
  refine wpAny_bind (byText_w ?_)
  split
  · rename_i hc
    exact hwalk hc
  · rename_i hc
    have hqu : ∀ x ∈ a :: others, ∃ g led P, HSet s.heap x g led P := by
      intro x hx
      rcases List.mem_cons.mp hx with rfl | hx
      · exact ⟨_, _, _, o, ho, hS'⟩
      · exact hothers x hx
    refine wpAny_bind (quiet_w _ hqu ?_)
    simp only [Bool.not_true, Bool.false_eq_true, if_false]
    refine wpAny_bind (wpAny_rule ?_)
    obtain ⟨of, hof, hexf, ef, epf, tf, hdf, hEf, hff, hlf, hmkf, _⟩ := hd'
    refine wpAny_bind (wpAny_setState_of hof hdf hff ?_)
    dsimp only
    split
    · have hlen := hEf.len
      rw [Array.length_toList] at hlen
      refine wpAny_bind (wpAny_storeSet_of hof hdf ?_ (fits_of_scanBound (by unfold scanBound; omega)))
      refine wpAny_pure (h es _ (.refl _) (Heap.SameBut.update ..) ⟨_, store_get hof hdf, hexf, ef, _, _, rfl, hEf, hff, ?_, hmkf, fun x => nomatch x⟩)
      show (tf.led && t.led) = led
      rw [hlf, hl, Bool.and_self]
    · exact wpAny_pure (hstay es (.refl _))
end
end Mine
end
section
open PySem PySem.W PyProof.Rows
namespace Mine
section
variable {prog : Program} {w : World} {A : Around} {E : Value → Shared → Prop} {s : Shared} {a b d : Addr} {o oa ob od : Obj} {P P' : Int → Bool} {g g' g₂ led : Bool}
theorem reord_w {X Y : Sem (Array (Int × Value) × SetTable)} {es : Array (Int × Value)} {t : SetTable} {order : Array Nat} {Q : Array (Int × Value) × SetTable → Shared → Prop}
    (hX : X = ite (((order.filterMap (es[·]?)).size != es.size) = true) Y (pure (order.filterMap (es[·]?), t))) (hp : order.toList.Perm (List.range es.size))
    (h : ∀ es', es'.toList.Perm es.toList → Q (es', t) s) : wpAny (model prog w) A X Q E s := by
  have hpp := reorder_perm hp
  have hsz : (order.filterMap (es[·]?)).size = es.size := by rw [← Array.length_toList, hpp.length_eq, Array.length_toList]
  rw [hX, hsz]
  simp only [bne_self_eq_false, Bool.false_eq_true, if_false]
  exact wpAny_pure (h _ hpp)
theorem relay_w {es : Array (Int × Value)} {ep : Nat} {t : SetTable} {wanted : Nat} {Q : Unit → Shared → Prop} (ho : s.heap.get? a = some o) (hd : o.data = .set es ep t) (hS : SetS g led o P) (hw : wanted < 1024) (hle : es.size ≤ wanted)
    (h : ∀ h' es' t' ep', Heap.SameBut a s.heap h' → h'.get? a = some { o with data := .set es' ep' t' } → es'.toList.Perm es.toList → Ents es'.toList P → t'.fits es'.size = true → t'.led = led → t'.mask ∈ masks → es'.size ≤ t'.mask → t'.dummies = #[] → wanted ≤ t'.mask → Q () { s with heap := h' }) :
    wpAny (model prog w) A (setRelay a wanted) Q E s := by
  obtain ⟨hex, es', ep', t', hd', hE, hf, hl, hmk, hg⟩ := hS
  rw [hd] at hd'; cases hd'
  obtain ⟨t', order, e, hp, g0, hpl, hmask, hwm⟩ := relaid_some (t := t) hw hle hE.smallHash
  unfold setRelay
  refine wpAny_bind (wpAny_setState_of ho hd hf ?_)
  dsimp only
  have hline : ¬ SetTable.sizeAbove wanted > sizeLine := by
    have h1 := (masks_ge (sizeAbove_mem hw).1).2
    rw [sizeLine_eq]
    omega
  rw [if_neg hline, e]
  have hlen := hE.len
  rw [Array.length_toList] at hlen
  refine wpAny_bind (reord_w rfl hp fun es' hpp => ?_)
  have hsz : es'.size = es.size := by rw [← Array.length_toList, hpp.length_eq, Array.length_toList]
  refine wpAny_storeSet_of ho hd ?_ (fits_of_scanBound (by show es'.size < 4096; omega))
  have hfit : t'.fits es'.size = true := by rw [hsz]; exact (g0.fits (by show es.size ≤ t'.mask; omega) : ({ t' with plain := true } : SetTable).fits es.size = true)
  exact h _ es' t' _ (Heap.SameBut.update ..) (store_get ho hd) hpp (hE.perm hpp) hfit (g0.led.trans hl) g0.mask (by omega) g0.dum hwm
theorem roomFor_w {es : Array (Int × Value)} {ep : Nat} {t : SetTable} {n : Nat} {Q : Unit → Shared → Prop} (ho : s.heap.get? a = some o) (hd : o.data = .set es ep t) (hS : SetS g led o P) (hn : n ≤ 152)
    (h : ∀ h' es' t' ep', Heap.SameBut a s.heap h' → h'.get? a = some { o with data := .set es' ep' t' } → es'.toList.Perm es.toList → Ents es'.toList P → t'.fits es'.size = true → t'.led = led → (t'.fill = 0 → t'.mask ∈ masks ∧ n ≤ t'.mask) → Q () { s with heap := h' }) :
    wpAny (model prog w) A (setRoomFor a n) Q E s := by
  have hS' := hS
  obtain ⟨hex, es', ep', t', hd', hE, hf, hl, hmk, hg⟩ := hS
  rw [hd] at hd'; cases hd'
  have hlen := hE.len
  rw [Array.length_toList] at hlen
  have hpl : t.place.size = es.size := by simp only [SetTable.fits, Bool.and_eq_true, beq_iff_eq] at hf; exact hf.1
  unfold setRoomFor
  refine wpAny_bind (wpAny_setState_of ho hd hf ?_)
  unfold SetTable.roomFor
  dsimp only
  split
  · rename_i i heq
    have hi : i = (t.place.size + n) * 2 := by
      split at heq
      · cases heq; rfl
      · cases heq
    rw [hi, hpl]
    refine relay_w ho hd hS' (by omega) (by omega) fun h' es' t' ep' h1 h2 h3 h4 h5 h6 h7 h8 h9 h10 => ?_
    exact h h' es' t' ep' h1 h2 h3 h4 h5 h6 fun _ => ⟨h7, by omega⟩
  · rename_i heq
    have hc : ¬ (t.fill + n) * 5 ≥ t.mask * 3 := by
      intro hc
      rw [if_pos hc] at heq
      exact heq _ rfl
    refine wpAny_pure ?_
    have := h s.heap es t ep (Heap.SameBut.refl ..) (by rw [ho]; cases o; cases hd; rfl) (.refl _) hE hf hl (fun h0 => ⟨hmk h0, by omega⟩)
    exact this
theorem ents_nil {es : Array (Int × Value)} {t : SetTable} (hE : Ents es.toList P) (hf : t.fits es.size = true) (h0 : t.fill = 0) : ∀ k, P k = false := by
  have hpl : t.place.size = es.size := by simp only [SetTable.fits, Bool.and_eq_true, beq_iff_eq] at hf; exact hf.1
  unfold SetTable.fill at h0
  have : es = #[] := Array.eq_empty_of_size_eq_zero (by omega)
  subst this
  intro k
  cases hk : P k with
  | false => rfl
  | true => have := (hE.mem k).mp hk; simp at this
structure Fill (d : Addr) (s : Shared) (led : Bool) (P : Int → Bool) (s' : Shared) : Prop where
  eq : s' = { s with heap := s'.heap }
  but : Heap.SameBut d s.heap s'.heap
  set : HSet s'.heap d false led P
theorem Fill.refl {d : Addr} {s : Shared} {led : Bool} {P : Int → Bool} (h : HSet s.heap d g led P) : Fill d s led P s := ⟨by cases s; rfl, Heap.SameBut.refl .., h.weak⟩
theorem Fill.step {d : Addr} {s s' : Shared} {led : Bool} {P P' : Int → Bool} {h : Heap} (x : Fill d s led P s') (y : Heap.SameBut d s'.heap h) (z : HSet h d g led P') : Fill d s led P' { s' with heap := h } :=
  ⟨by have e := x.eq; rw [e], x.but.trans y, z.weak⟩
theorem Fill.congr {d : Addr} {s s' : Shared} {led : Bool} {P P' : Int → Bool} (x : Fill d s led P s') (e : ∀ k, P' k = P k) : Fill d s led P' s' := ⟨x.eq, x.but, x.set.congr e⟩
theorem Fill.trans {d : Addr} {s s' s'' : Shared} {led : Bool} {P P' : Int → Bool} (x : Fill d s led P s') (y : Fill d s' led P' s'') : Fill d s led P' s'' :=
  ⟨by have e := x.eq; have e' := y.eq; rw [e'] ; rw [e], x.but.trans y.but, y.set⟩
theorem addS_w {k : Int} {tk : Tok} {Q : Bool → Shared → Prop} (hS : HSet s.heap d g led P) (h0 : 0 ≤ k) (h1 : k < 152)
    (h : ∀ s', Fill d s led (fun j => P j || decide (j = k)) s' → Q (!P k) s') : wpAny (model prog w) A (setAddHashed d (.int k tk) (hashInt k)) Q E s := by
  obtain ⟨o, ho, hS⟩ := hS
  exact setAdd_w ho hS h0 h1 fun h' o' hb hg' hs' => h _ ⟨rfl, hb, ⟨o', hg', hs'.weak⟩⟩
theorem any_app (l : List (Int × Value)) (x : Int × Value) (j : Int) : ((l ++ [x]).any fun e => decide (j = key e)) = ((l.any fun e => decide (j = key e)) || decide (j = key x)) := by
  rw [List.any_append]; simp
theorem any_all {es : List (Int × Value)} (hE : Ents es P) {es' : List (Int × Value)} (hp : es'.Perm es) (j : Int) : (es'.any fun e => decide (j = key e)) = P j := by
  rw [Bool.eq_iff_iff, List.any_eq_true, hE.mem, List.mem_map]
  constructor
  · rintro ⟨e, he, hj⟩; exact ⟨e, hp.mem_iff.mp he, (decide_eq_true_eq.mp hj).symm⟩
  · rintro ⟨e, he, hj⟩; exact ⟨e, hp.mem_iff.mpr he, decide_eq_true hj.symm⟩
theorem merge_w {each : Sem Unit} {Q : Unit → Shared → Prop} (hne : d ≠ b) (hS : HSet s.heap d g led P) (hSb : HSet s.heap b g' led P') (hled : led = !w.params.followText "set-order")
    (heach : ∀ (s' : Shared) (Q' : Unit → Shared → Prop), s'.heap.get? b = s.heap.get? b → Q' () s' → wpAny (model prog w) A each Q' E s')
    (h : ∀ s', Fill d s led (fun j => P j || P' j) s' → Q () s') : wpAny (model prog w) A (setMerge d b each) Q E s := by
  obtain ⟨od, hod, hSd⟩ := hS
  have hSd' := hSd
  obtain ⟨hexd, ed, epd, td, hdd, hEd, hfd, hld, hmd, _⟩ := hSd
  obtain ⟨ob, hob, hSb⟩ := hSb
  have hSb' := hSb
  obtain ⟨hexb, eb, epb, tb, hdb, hEb, hfb, hlb, hmb, _⟩ := hSb
  have hlen := hEb.len
  rw [Array.length_toList] at hlen
  unfold setMerge
  rw [if_neg (by simpa using hne)]
  refine wpAny_bind (wpAny_setState_of hob hdb hfb ?_)
  dsimp only
  split
  · rename_i hemp
    have hz : eb = #[] := by simpa using hemp
    subst hz
    refine wpAny_pure (h s ((Fill.refl (g := g) ⟨od, hod, hSd'⟩).congr fun k => ?_))
    cases hk : P' k with
    | false => rw [Bool.or_false]
    | true => have := (hEb.mem k).mp hk; simp at this
  · refine wpAny_bind (roomFor_w hod hdd hSd' hlen fun h1 e1 t1 ep1 hb1 hg1 hp1 hE1 hf1 hl1 hm1 => ?_)
    have hob1 : h1.get? b = some ob := (hb1.2 b (Ne.symm hne)).trans hob
    refine wpAny_bind (wpAny_setState_of (s := { s with heap := h1 }) hg1 rfl hf1 ?_)
    dsimp only
    split
    · rename_i hr
      have h0 : t1.fill = 0 := by
        unfold SetTable.road at hr
        split at hr
        · cases hr
        · rename_i hq; simpa using hq
      refine wpAny_storeSet_of (s := { s with heap := h1 }) hg1 rfl ?_ (fits_of_scanBound (by unfold scanBound; omega))
      refine h _ ⟨rfl, hb1.trans (Heap.SameBut.update ..), ⟨_, store_get (h := h1) hg1 rfl, hexd, eb, _, _, rfl, hEb.congr fun k => ?_, hfb, ?_, hmb, fun x => nomatch x⟩⟩
      · rw [ents_nil hE1 hf1 h0 k, Bool.false_or]
      · show (t1.led && tb.led) = led
        rw [hl1, hlb, Bool.and_self]
    · rename_i hr
      have h0 : t1.fill = 0 := by
        unfold SetTable.road at hr
        split at hr
        · cases hr
        · rename_i hq; simpa using hq
      obtain ⟨hm1a, hm1b⟩ := hm1 h0
      obtain ⟨t', order, e, hp, a1, a2, a3, a4, a5, a6, a7⟩ := laid_some (finger := t1.finger) (moves := t1.moves) (led := t1.led && tb.led) (plain := t1.plain && tb.plain) hm1a (hashes_small hEb.smallHash) (by rw [Array.size_map]; exact hm1b)
      rw [Array.size_map] at hp a3
      rw [e]
      refine wpAny_bind (reord_w rfl hp fun es' hpp => ?_)
      have hsz : es'.size = eb.size := by rw [← Array.length_toList, hpp.length_eq, Array.length_toList]
      refine wpAny_storeSet_of (s := { s with heap := h1 }) hg1 rfl ?_ (fits_of_scanBound (by show es'.size < 4096; omega))
      have hfit : t'.fits es'.size = true := by simp [SetTable.fits, SetTable.fill, hsz, a3, a4, a1, hm1b]
      refine h _ ⟨rfl, hb1.trans (Heap.SameBut.update ..), ⟨_, store_get (h := h1) hg1 rfl, hexd, es', _, _, rfl, (hEb.perm hpp).congr fun k => ?_, hfit, ?_, ?_, fun x => nomatch x⟩⟩
      · rw [ents_nil hE1 hf1 h0 k, Bool.false_or]
      · rw [a5, hl1, hlb, Bool.and_self]
      · rw [a1]; exact fun _ => hm1a
    · have hd1 : HSet h1 d false led P := by
        by_cases hz : t1.fill = 0
        · exact ⟨_, hg1, hexd, e1, _, t1, rfl, hE1, hf1, hl1, fun h0 => (hm1 h0).1, fun x => nomatch x⟩
        · exact ⟨_, hg1, hexd, e1, _, t1, rfl, hE1, hf1, hl1, fun h0 => absurd h0 hz, fun x => nomatch x⟩
      refine wpAny_bind (walkUnseenF_w (s := { s with heap := h1 }) hob1 hdb hSb' hled (fun x hx => by rw [List.mem_singleton.mp hx]; exact ⟨_, _, _, hd1⟩) hd1 fun es' h2 hpp hb2 hS2 => ?_)
      rw [← Array.forIn_toList]
      have hob2 : h2.get? b = some ob := (hb2.2 b (Ne.symm hne)).trans hob1
      refine wpAny_bind (forIn_w (fun dn _ s' => Fill d { s with heap := h2 } led (fun j => P j || dn.any fun e => decide (j = key e)) s') es'.toList [] _ { s with heap := h2 } ((Fill.refl hS2).congr fun k => by simp) ?_ ?_)
      · rintro dn ⟨hx, x⟩ rest bb s' hsplit hfill
        have hmem : (hx, x) ∈ es'.toList := by rw [List.nil_append] at hsplit; rw [hsplit]; simp
        have hmem' := hpp.mem_iff.mp hmem
        obtain ⟨q1, tk, q2⟩ := hEb.int _ hmem'
        have hsm := hEb.small _ (hEb.at hmem')
        dsimp only at q1 q2 ⊢
        have hk2 := any_app dn (hx, x)
        generalize key (hx, x) = k0 at q1 q2 hsm hk2
        subst q1 q2
        refine wpAny_bind (wpAny_holding (addS_w hfill.set hsm.1 hsm.2 fun s'' hf'' => ?_))
        have hob3 : s''.heap.get? b = some ob := (hf''.but.2 b (Ne.symm hne)).trans ((hfill.but.2 b (Ne.symm hne)).trans hob2)
        refine wpAny_bind (heach _ _ (hob3.trans hob.symm) ?_)
        refine wpAny_bind (wpAny_setState_of hob3 hdb hfb ?_)
        simp only [bne_self_eq_false, Bool.false_eq_true, if_false]
        refine wpAny_pure ⟨_, rfl, (hfill.trans hf'').congr fun k => ?_⟩
        rw [hk2, Bool.or_assoc]
      · intro bb s' hfill
        have hin : Fill d s led P { s with heap := h2 } := ⟨rfl, hb1.trans hb2, hS2⟩
        refine wpAny_pure (h _ ((hin.trans hfill).congr fun k => ?_))
        rw [List.nil_append, any_all hEb hpp]
end
end Mine
end
section
open PySem PySem.W PyProof.Rows
namespace Mine
section
variable {prog : Program} {w : World} {A : Around} {E : Value → Shared → Prop} {s : Shared} {a b d : Addr} {o oa ob od : Obj} {P P' : Int → Bool} {g g' g₂ led : Bool}
structure Made (s : Shared) (led : Bool) (P : Int → Bool) (s' : Shared) : Prop where
  eq : s' = { s with heap := s'.heap }
  ext : ∀ b o, s.heap.get? b = some o → s'.heap.get? b = some o
  set : HSet s'.heap s.heap.objs.size false led P
theorem made_fresh {led : Bool} : Made s led (fun _ => false) { s with heap := s.heap.push (freshSet led) } :=
  ⟨rfl, fun b o h => Heap.get?_push_of_some _ h, ⟨_, Heap.get?_push_size _ rfl, (setS_fresh led).weak⟩⟩
theorem Made.fill {s s' s'' : Shared} (x : Made s led P s') (y : Fill s.heap.objs.size s' led P' s'') : Made s led P' s'' :=
  ⟨by have e := x.eq; have e' := y.eq; rw [e']; rw [e], fun b o h => (y.but.2 b (Nat.ne_of_lt (Heap.lt_size h))).trans (x.ext b o h), y.set⟩
theorem Made.congr {s s' : Shared} (x : Made s led P s') (e : ∀ k, P' k = P k) : Made s led P' s' := ⟨x.eq, x.ext, x.set.congr e⟩
theorem HSet.lt {h : Heap} (x : HSet h a g led P) : a < h.objs.size := let ⟨o, p, _⟩ := x; Heap.lt_size p
theorem HSet.ext {h h' : Heap} (x : HSet h a g led P) (e : ∀ b o, h.get? b = some o → h'.get? b = some o) : HSet h' a g led P := let ⟨o, p, q⟩ := x; ⟨o, e _ _ p, q⟩
theorem copy_w {Q : Value → Shared → Prop} (hS : HSet s.heap a g led P) (hled : led = !w.params.followText "set-order") (h : ∀ s', Made s led P s' → Q (.ref s.heap.objs.size) s') :
    wpAny (model prog w) A (Builtin.Frozenset.copyOf a) Q E s := by
  unfold Builtin.Frozenset.copyOf
  refine wpAny_bind (baseOf_w hS ?_)
  refine wpAny_bind (newSet_w ?_)
  rw [← hled]
  unfold Builtin.Frozenset.addrOf
  refine wpAny_bind (wpAny_pure ?_)
  have m := made_fresh (s := s) (led := led)
  refine wpAny_bind (merge_w (s := { s with heap := s.heap.push (freshSet led) }) (Ne.symm (Nat.ne_of_lt hS.lt)) m.set (hS.ext m.ext) hled (fun s' Q' _ hq => wpAny_pure hq) fun s' hf => ?_)
  exact wpAny_pure (h s' ((m.fill hf).congr fun k => by simp))
theorem unchanged_w {id : String} {es : Array (Int × Value)} {ep : Nat} {t : SetTable} {Q : Unit → Shared → Prop} (ho : s.heap.get? a = some o) (hd : o.data = .set es ep t) (hf : t.fits es.size = true) (h : Q () s) :
    wpAny (model prog w) A (Builtin.Frozenset.unchanged id a ep) Q E s := by
  unfold Builtin.Frozenset.unchanged
  refine wpAny_bind (setEpoch_w ho hd hf ?_)
  simp only [bne_self_eq_false, Bool.false_eq_true, if_false]
  exact wpAny_pure h
theorem update_w {id : String} {Q : Unit → Shared → Prop} (hne : d ≠ b) (hS : HSet s.heap d g led P) (hSb : HSet s.heap b g' led P') (hled : led = !w.params.followText "set-order")
    (h : ∀ s', Fill d s led (fun j => P j || P' j) s' → Q () s') : wpAny (model prog w) A (Builtin.Frozenset.updateFrom id d (.ref b)) Q E s := by
  have hSb' := hSb
  obtain ⟨ob, hob, hexb, eb, epb, tb, hdb, hEb, hfb, hlb, hmb, _⟩ := hSb
  unfold Builtin.Frozenset.updateFrom
  refine wpAny_bind (isAnySet_w hSb' ?_)
  simp only [if_true]
  unfold Builtin.Frozenset.addrOf
  refine wpAny_bind (wpAny_pure ?_)
  unfold Builtin.Frozenset.merge
  refine wpAny_bind (setEpoch_w hob hdb hfb ?_)
  refine merge_w hne hS hSb' hled (fun s' Q' hb hq => ?_) h
  exact unchanged_w (hb.trans hob) hdb hfb hq
theorem walkFill_w {es : Array (Int × Value)} {ep : Nat} {t : SetTable} {f : (Int × Value) → PUnit → Sem (ForInStep PUnit)} {Q : PUnit → Shared → Prop} {others : List Addr} (G : Int → Bool → Bool)
    (hd : HSet s.heap d g led P') (ho : s.heap.get? a = some o) (hdat : o.data = .set es ep t) (hS : SetS g' led o P) (hled : led = !w.params.followText "set-order")
    (hothers : ∀ x ∈ others, ∃ g led P, HSet s.heap x g led P)
    (step : ∀ (k : Int) (tk : Tok) (P₁ : Int → Bool) (s₁ : Shared), Fill d s led P₁ s₁ → 0 ≤ k → k < 152 → P k = true → P₁ k = P' k →
      wpAny (model prog w) A (f (hashInt k, .int k tk) PUnit.unit) (fun r s' => r = .yield PUnit.unit ∧ Fill d s₁ led (fun j => if j = k then G j (P₁ j) else P₁ j) s') E s₁)
    (h : ∀ s', Fill d s led (fun j => if P j then G j (P' j) else P' j) s' → Q PUnit.unit s') :
    wpAny (model prog w) A (setWalkUnseen a others (some d)) (fun es' s' => wpAny (model prog w) A (forIn es' PUnit.unit f) Q E s') E s := by
  have hE := hS
  obtain ⟨hex, es', ep', t', hd', hE, hf, hl, hmk, hg⟩ := hE
  rw [hdat] at hd'; cases hd'
  refine walkUnseenF_w ho hdat hS hled hothers hd fun es' h2 hpp hb2 hS2 => ?_
  rw [← Array.forIn_toList]
  have hE' := hE.perm hpp
  refine forIn_w (fun dn bb s' => bb = PUnit.unit ∧ Fill d s led (fun j => if (dn.any fun e => decide (j = key e)) then G j (P' j) else P' j) s') es'.toList [] _ { s with heap := h2 } ⟨rfl, rfl, hb2, hS2.congr fun k => by simp⟩ ?_ ?_
  · rintro dn ⟨hx, x⟩ rest bb s' hsplit ⟨rfl, hfill⟩
    rw [List.nil_append] at hsplit
    have hmem : (hx, x) ∈ es'.toList := by rw [hsplit]; simp
    obtain ⟨q1, tk, q2⟩ := hE'.int _ hmem
    have hPk := hE'.at hmem
    have hsm := hE.small _ hPk
    have hk2 := any_app dn (hx, x)
    have hfresh : (dn.any fun e => decide (key (hx, x) = key e)) = false := by
      have hnd := hE'.nodup
      rw [hsplit, List.map_append, List.map_cons, List.nodup_append] at hnd
      rw [List.any_eq_false]
      intro e he
      rw [decide_eq_true_eq]
      intro hc
      exact hnd.2.2 (key e) (List.mem_map.mpr ⟨e, he, rfl⟩) (key (hx, x)) (.head _) hc.symm
    dsimp only at q1 q2
    generalize key (hx, x) = k0 at q1 q2 hsm hk2 hPk hfresh
    subst q1 q2
    refine wpAny_mono (step k0 tk _ s' hfill hsm.1 hsm.2 hPk (by rw [hfresh]; rfl)) (fun r s'' hr => ⟨PUnit.unit, hr.1, rfl, (hfill.trans hr.2).congr fun k => ?_⟩) fun _ _ h => h
    rw [hk2]
    by_cases e : k = k0
    · rw [if_pos e, e, hfresh, decide_eq_true rfl]
      rfl
    · rw [if_neg e, decide_eq_false e, Bool.or_false]
  · rintro bb s' ⟨rfl, hfill⟩
    refine h s' (hfill.congr fun k => ?_)
    rw [List.nil_append, any_all hE hpp]
theorem Fill.get {s s' : Shared} {x : Addr} (f : Fill d s led P s') (hne : x ≠ d) : s'.heap.get? x = s.heap.get? x := f.but.2 x hne
theorem Fill.hset {s s' : Shared} {x : Addr} {led' : Bool} (f : Fill d s led P s') (hne : x ≠ d) (h : HSet s.heap x g led' P') : HSet s'.heap x g led' P' := h.same f.but hne
theorem findS_w {k : Int} {tk : Tok} {Q : Option Nat → Shared → Prop} (hS : HSet s.heap a g led P) (h : ∀ r : Option Nat, r.isSome = P k → Q r s) : wpAny (model prog w) A (setFind a (.int k tk) (hashInt k)) Q E s := by
  obtain ⟨o, ho, hex, es, ep, t, hd, hE, hf, _⟩ := hS
  exact setFind_w ho hd hE hf (h _ (find_isSome hE k))
theorem interLoop_w {id : String} {x y : Addr} {ox : Obj} {ex : Array (Int × Value)} {epx : Nat} {tx : SetTable} {gx gy : Bool} {P₀ : Int → Bool} {Q : Unit → Shared → Prop} (hd : HSet s.heap d g led P₀)
    (hox : s.heap.get? x = some ox) (hdx : ox.data = .set ex epx tx) (Sx : SetS gx led ox P) (hy : HSet s.heap y gy led P') (hled : led = !w.params.followText "set-order") (hxd : x ≠ d) (hyd : y ≠ d)
    (h : ∀ s', Fill d s led (fun j => P₀ j || (P j && P' j)) s' → Q () s') :
    wpAny (model prog w) A (do
        let was ← setEpoch x
        let es ← setWalkUnseen x [y, d] (some d)
        forIn es PUnit.unit fun p __s =>
            match p with
            | (h, v) => do
              holding [v] do
                  let r ← setFind y v h
                  if r.isSome = true then do
                      let _ ← setAddHashed d v h
                      pure ()
                    else pure ()
              Builtin.Frozenset.unchanged id x was
              pure (ForInStep.yield PUnit.unit)
        pure ()) Q E s := by
  have Sx' := Sx
  obtain ⟨hex, es', ep', t', hd', hE, hf, hl, hmk, hg⟩ := Sx
  rw [hdx] at hd'; cases hd'
  refine wpAny_bind (setEpoch_w hox hdx hf ?_)
  refine wpAny_bind (wpAny_mono (walkFill_w (Q := fun _ s' => Q () s') (G := fun j v => v || P' j) hd hox hdx Sx' hled ?_ ?_ ?_) (fun es' s' hq => wpAny_bind (wpAny_mono hq (fun _ _ hq' => wpAny_pure hq') fun _ _ h => h)) fun _ _ h => h)
  · intro z hz
    rcases List.mem_cons.mp hz with rfl | hz
    · exact ⟨_, _, _, hy⟩
    · rw [List.mem_singleton.mp hz]; exact ⟨_, _, _, hd⟩
  · intro k tk P₁ s₁ hfill h0 h1 hPk hP₁
    dsimp only
    have hun : ∀ (s₂ : Shared) (P₂ : Int → Bool), Fill d s₁ led P₂ s₂ → (∀ j, P₂ j = if j = k then (P₁ j || P' j) else P₁ j) →
        wpAny (model prog w) A (Builtin.Frozenset.unchanged id x epx >>= fun _ => pure (ForInStep.yield PUnit.unit)) (fun r s' => r = .yield PUnit.unit ∧ Fill d s₁ led (fun j => if j = k then (P₁ j || P' j) else P₁ j) s') E s₂ := fun s₂ P₂ hf₂ he =>
      wpAny_bind (unchanged_w ((hf₂.get hxd).trans ((hfill.get hxd).trans hox)) hdx hf (wpAny_pure ⟨rfl, hf₂.congr fun j => (he j).symm⟩))
    refine wpAny_bind (wpAny_holding (wpAny_bind (findS_w (hfill.hset hyd hy) fun r hr => ?_)))
    rw [hr]
    split
    · rename_i hyk
      refine wpAny_bind (addS_w hfill.set h0 h1 fun s₂ hf₂ => wpAny_pure (hun s₂ _ hf₂ fun j => ?_))
      by_cases e : j = k
      · rw [if_pos e, e, hyk, decide_eq_true rfl]
      · rw [if_neg e, decide_eq_false e, Bool.or_false]
    · rename_i hyk
      refine wpAny_pure (hun s₁ P₁ (Fill.refl hfill.set) fun j => ?_)
      by_cases e : j = k
      · rw [if_pos e, e, Bool.eq_false_iff.mpr hyk, Bool.or_false]
      · rw [if_neg e]
  · intro s' hf
    refine h s' (hf.congr fun k => ?_)
    cases P k <;> simp
theorem inter_w {id : String} {Q : Value → Shared → Prop} (hS : HSet s.heap a g led P) (hSb : HSet s.heap b g' led P') (hled : led = !w.params.followText "set-order") (hne : a ≠ b)
    (h : ∀ s', Made s led (fun j => P j && P' j) s' → Q (.ref s.heap.objs.size) s') : wpAny (model prog w) A (Builtin.Frozenset.intersection id a (.ref b)) Q E s := by
  unfold Builtin.Frozenset.intersection
  have hbne : (Value.ref b == Value.ref a) = false := by simp [Ne.symm hne]
  rw [hbne]
  simp only [Bool.false_eq_true, if_false]
  refine wpAny_bind (baseOf_w hS ?_)
  refine wpAny_bind (newSet_w ?_)
  rw [← hled]
  unfold Builtin.Frozenset.addrOf
  refine wpAny_bind (wpAny_pure ?_)
  have m := made_fresh (s := s) (led := led)
  have hS1 := hS.ext m.ext
  have hSb1 := hSb.ext m.ext
  refine wpAny_bind (wpAny_holding ?_)
  refine wpAny_bind (isAnySet_w (s := { s with heap := s.heap.push (freshSet led) }) hSb1 ?_)
  simp only [if_true]
  refine wpAny_bind (wpAny_pure ?_)
  have hS1' := hS1
  have hSb1' := hSb1
  obtain ⟨oa, hoa, SA⟩ := hS1
  obtain ⟨ob, hob, SB⟩ := hSb1
  have SA' := SA
  have SB' := SB
  obtain ⟨hexa, ea, epa, ta, hda, hEa, hfa, hla, hma, _⟩ := SA
  obtain ⟨hexb, eb, epb, tb, hdb, hEb, hfb, hlb, hmb, _⟩ := SB
  refine wpAny_bind (sizeOf_w hob hdb hfb ?_)
  refine wpAny_bind (sizeOf_w hoa hda hfa ?_)
  have hal : a < s.heap.objs.size := hS.lt
  have hbl : b < s.heap.objs.size := hSb.lt
  split
  · dsimp only
    refine interLoop_w (P := P) (P' := P') m.set hoa hda SA' hSb1' hled (Nat.ne_of_lt hal) (Nat.ne_of_lt hbl) fun s' hf => ?_
    exact wpAny_pure (h s' ((m.fill hf).congr fun k => by simp))
  · dsimp only
    refine interLoop_w (P := P') (P' := P) m.set hob hdb SB' hS1' hled (Nat.ne_of_lt hbl) (Nat.ne_of_lt hal) fun s' hf => ?_
    exact wpAny_pure (h s' ((m.fill hf).congr fun k => by simp [Bool.and_comm]))
end
end Mine
end
section
open PySem PySem.W PyProof.Rows
namespace Mine
section
variable {prog : Program} {w : World} {A : Around} {E : Value → Shared → Prop} {s : Shared} {a b d : Addr} {o oa ob od : Obj} {P P' : Int → Bool} {g g' g₂ led : Bool}
theorem erase_perm {α : Type} (es : Array α) (i : Nat) (h : i < es.size) : es.toList.Perm (es[i] :: (SetTable.eraseAt es i).toList) := by
  have e : (SetTable.eraseAt es i).toList = es.toList.eraseIdx i := by
    simp [SetTable.eraseAt, List.extract_eq_take_drop, List.eraseIdx_eq_take_drop_succ, List.take_of_length_le]
  rw [e]
  have := (cons_erase_perm (l := es.toList) (n := i) (by simpa using h)).symm
  simpa using this
theorem drop_fits {t : SetTable} {n i : Nat} (hf : t.fits n = true) (hi : i < n) : (t.drop i).fits (n - 1) = true ∧ (t.drop i).fill = t.fill ∧ (t.drop i).led = t.led := by
  simp only [SetTable.fits, Bool.and_eq_true, beq_iff_eq, decide_eq_true_eq] at hf
  obtain ⟨h1, h2⟩ := hf
  have hi' : i < t.place.size := by omega
  unfold SetTable.drop
  rw [Array.getElem?_eq_getElem hi']
  dsimp only
  have e1 : (SetTable.eraseAt t.place i).size = t.place.size - 1 := by
    have := (erase_perm t.place i hi').length_eq
    simp only [Array.length_toList, List.length_cons] at this
    omega
  have e2 : ∀ p x, (SetTable.insertAt t.dummies p x).size = t.dummies.size + 1 := fun p x => by
    have := (SetTable.insertAt_perm t.dummies p x).length_eq
    simpa using this
  have e3 : t.fill = t.place.size + t.dummies.size := rfl
  refine ⟨?_, ?_, rfl⟩
  · simp only [SetTable.fits, SetTable.fill, e1, e2, Bool.and_eq_true, beq_iff_eq, decide_eq_true_eq]
    omega
  · simp only [SetTable.fill, e1, e2]
    omega
theorem discard_w {k : Int} {tk : Tok} {Q : Bool → Shared → Prop} (hS : HSet s.heap d g led P)
    (h : ∀ s', Fill d s led (fun j => P j && !decide (j = k)) s' → Q (P k) s') : wpAny (model prog w) A (setDiscardHashed d (.int k tk) (hashInt k)) Q E s := by
  have hS' := hS
  obtain ⟨o, ho, hex, es, ep, t, hd, hE, hf, hl, hmk, _⟩ := hS
  unfold setDiscardHashed
  refine wpAny_bind (setFind_w ho hd hE hf ?_)
  cases hr : es.toList.findIdx? (fun e => key e == k) with
  | none =>
    have hk := (find_none hE).mp hr
    dsimp only
    refine wpAny_pure ?_
    have := h s ((Fill.refl hS').congr fun j => ?_)
    · rw [hk] at this; exact this
    · by_cases e : j = k
      · rw [e, hk]; rfl
      · rw [decide_eq_false e]; simp
  | some i =>
    dsimp only
    obtain ⟨hi, hpi, _⟩ := List.findIdx?_eq_some_iff_getElem.mp hr
    have hi' : i < es.size := by simpa using hi
    have hk : P k = true := by rw [← find_isSome hE k, hr]; rfl
    have hkey : key es[i] = k := by simpa using hpi
    have hp := erase_perm es i hi'
    have hE2 := hE.erase hp
    have hlen := hE.len
    rw [Array.length_toList] at hlen
    have hsz : (SetTable.eraseAt es i).size = es.size - 1 := by
      have := hp.length_eq
      simp only [Array.length_toList, List.length_cons] at this
      omega
    obtain ⟨f1, f2, f3⟩ := drop_fits hf hi'
    refine wpAny_bind (wpAny_setState_of ho hd hf ?_)
    dsimp only
    refine wpAny_bind (wpAny_storeSet_of ho hd ?_ (fits_of_scanBound (by unfold scanBound; omega)))
    refine wpAny_bind (wpAny_point (wpAny_pure ?_))
    have := h { s with heap := s.heap.update d (Obj.putSet (SetTable.eraseAt es i) (t.drop i)) } ⟨rfl, Heap.SameBut.update .., ⟨_, store_get ho hd, hex, SetTable.eraseAt es i, _, t.drop i, rfl, hE2.congr fun j => by rw [hkey], by rw [hsz]; exact f1, f3.trans hl, ?_, fun x => nomatch x⟩⟩
    · rw [hk] at this; exact this
    · rw [f2]
      intro h0
      simp only [SetTable.fits, Bool.and_eq_true, beq_iff_eq] at hf
      unfold SetTable.fill at h0
      omega
theorem Ents.len_eq {es es' : List (Int × Value)} (h : Ents es P) (h' : Ents es' P) : es.length = es'.length := by
  have h1 := List.Nodup.length_le_of_subset h.nodup (fun k hk => (h'.mem k).mp ((h.mem k).mpr hk))
  have h2 := List.Nodup.length_le_of_subset h'.nodup (fun k hk => (h.mem k).mp ((h'.mem k).mpr hk))
  simp only [List.length_map] at h1 h2
  omega
theorem tidy_w {Q : Unit → Shared → Prop} (hS : HSet s.heap d g led P) (h : ∀ s', Fill d s led P s' → Q () s') : wpAny (model prog w) A (setTidy d) Q E s := by
  have hS' := hS
  obtain ⟨o, ho, hS⟩ := hS
  have hSS := hS
  obtain ⟨hex, es, ep, t, hd, hE, hf, hl, hmk, _⟩ := hS
  have hlen := hE.len
  rw [Array.length_toList] at hlen
  unfold setTidy
  refine wpAny_bind (wpAny_setState_of ho hd hf ?_)
  dsimp only
  split
  · rw [grown_eq (by omega)]
    exact relay_w ho hd hSS (by omega) (by omega) fun h' es' t' ep' h1 h2 h3 h4 h5 h6 h7 h8 h9 h10 =>
      h _ ⟨rfl, h1, ⟨_, h2, hex, es', ep', t', rfl, h4, h5, h6, fun _ => h7, fun x => nomatch x⟩⟩
  · exact wpAny_pure (h s (Fill.refl hS'))
theorem diffUpdate_w {id : String} {Q : Unit → Shared → Prop} (hne : d ≠ b) (hS : HSet s.heap d g led P) (hSb : HSet s.heap b g' led P') (hled : led = !w.params.followText "set-order")
    (hsize : ∀ es es', Ents es P → Ents es' P' → es'.length / 8 ≤ es.length)
    (h : ∀ s', Fill d s led (fun j => P j && !P' j) s' → Q () s') : wpAny (model prog w) A (Builtin.Frozenset.differenceUpdate id d (.ref b)) Q E s := by
  have hS' := hS
  have hSb' := hSb
  obtain ⟨od, hod, hexd, ed, epd, td, hdd, hEd, hfd, _⟩ := hS
  obtain ⟨ob, hob, SB⟩ := hSb
  have SB' := SB
  obtain ⟨hexb, eb, epb, tb, hdb, hEb, hfb, _⟩ := SB
  unfold Builtin.Frozenset.differenceUpdate
  have hbne : (Value.ref b == Value.ref d) = false := by simp [Ne.symm hne]
  rw [hbne]
  simp only [Bool.false_eq_true, if_false]
  refine wpAny_bind (isAnySet_w hSb' ?_)
  simp only [if_true]
  unfold Builtin.Frozenset.addrOf
  refine wpAny_bind (wpAny_pure ?_)
  refine wpAny_bind (sizeOf_w hob hdb hfb ?_)
  refine wpAny_bind (sizeOf_w hod hdd hfd ?_)
  have hle := hsize _ _ hEd hEb
  simp only [Array.length_toList] at hle
  rw [if_neg (by omega)]
  refine wpAny_bind (setEpoch_w hob hdb hfb ?_)
  refine wpAny_bind (wpAny_holding (wpAny_bind ?_))
  refine walkUnseen_w hob hdb SB' hled (fun x hx => by rw [List.mem_singleton.mp hx]; exact ⟨_, _, _, hS'⟩) fun es' hpp => ?_
  rw [← Array.forIn_toList]
  have hE' := hEb.perm hpp
  refine wpAny_bind (forIn_w (fun dn bb s' => bb = PUnit.unit ∧ Fill d s led (fun j => P j && !(dn.any fun e => decide (j = key e))) s') es'.toList [] _ s ⟨rfl, (Fill.refl hS').congr fun k => by simp⟩ ?_ ?_)
  · rintro dn ⟨hx, x⟩ rest bb s' hsplit ⟨rfl, hfill⟩
    rw [List.nil_append] at hsplit
    have hmem : (hx, x) ∈ es'.toList := by rw [hsplit]; simp
    obtain ⟨q1, tk, q2⟩ := hE'.int _ hmem
    have hk2 := any_app dn (hx, x)
    dsimp only at q1 q2
    generalize key (hx, x) = k0 at q1 q2 hk2
    subst q1 q2
    dsimp only
    refine wpAny_bind (wpAny_holding (discard_w hfill.set fun s'' hf'' => ?_))
    refine wpAny_bind (unchanged_w ((hf''.get (Ne.symm hne)).trans ((hfill.get (Ne.symm hne)).trans hob)) hdb hfb ?_)
    refine wpAny_pure ⟨_, rfl, rfl, (hfill.trans hf'').congr fun k => ?_⟩
    rw [hk2, Bool.not_or, Bool.and_assoc]
  · rintro bb s' ⟨rfl, hfill⟩
    refine wpAny_pure ?_
    refine tidy_w hfill.set fun s'' hf'' => h s'' ((hfill.trans hf'').congr fun k => ?_)
    rw [List.nil_append, any_all hEb hpp]
theorem diff_w {id : String} {Q : Value → Shared → Prop} (hS : HSet s.heap a g led P) (hSb : HSet s.heap b g' led P') (hled : led = !w.params.followText "set-order")
    (h : ∀ s', Made s led (fun j => P j && !P' j) s' → Q (.ref s.heap.objs.size) s') : wpAny (model prog w) A (Builtin.Frozenset.difference id a (.ref b)) Q E s := by
  have hS' := hS
  have hSb' := hSb
  have hal := hS.lt
  have hbl := hSb.lt
  obtain ⟨oa, hoa, SA⟩ := hS
  have SA' := SA
  obtain ⟨hexa, ea, epa, ta, hda, hEa, hfa, _⟩ := SA
  obtain ⟨ob, hob, SB⟩ := hSb
  have SB' := SB
  obtain ⟨hexb, eb, epb, tb, hdb, hEb, hfb, _⟩ := SB
  unfold Builtin.Frozenset.difference
  dsimp only
  refine wpAny_bind (isAnySet_w hSb' ?_)
  simp only [Bool.not_true, Bool.false_eq_true, if_false, Bool.false_and, if_true]
  unfold Builtin.Frozenset.addrOf
  refine wpAny_bind (wpAny_pure ?_)
  refine wpAny_bind (sizeOf_w hob hdb hfb ?_)
  refine wpAny_bind (sizeOf_w hoa hda hfa ?_)
  split
  · rename_i hbig
    refine wpAny_bind (wpAny_rule ?_)
    refine wpAny_bind (copy_w hS' hled fun s' m => ?_)
    refine wpAny_bind (wpAny_pure ?_)
    refine wpAny_bind (wpAny_holding ?_)
    refine diffUpdate_w (Ne.symm (Nat.ne_of_lt hbl)) m.set (hSb'.ext m.ext) hled (fun es es' e1 e2 => ?_) fun s'' hf => wpAny_pure (h s'' (m.fill hf))
    have h1 := e1.len_eq hEa
    have h2 := e2.len_eq hEb
    simp only [Array.length_toList] at h1 h2
    omega
  · refine wpAny_bind (baseOf_w hS' ?_)
    refine wpAny_bind (newSet_w ?_)
    rw [← hled]
    refine wpAny_bind (wpAny_pure ?_)
    have m := made_fresh (s := s) (led := led)
    have hoa1 := m.ext a oa hoa
    have hSb1 := hSb'.ext m.ext
    have had : a ≠ s.heap.objs.size := Nat.ne_of_lt hal
    have hbd : b ≠ s.heap.objs.size := Nat.ne_of_lt hbl
    refine wpAny_bind (setEpoch_w (s := { s with heap := s.heap.push (freshSet led) }) hoa1 hda hfa ?_)
    refine wpAny_bind (wpAny_holding (wpAny_bind (wpAny_mono (walkFill_w (s := { s with heap := s.heap.push (freshSet led) }) (Q := fun _ s' => Q (Value.ref s.heap.objs.size) s') (G := fun j v => v || !P' j) m.set hoa1 hda SA' hled ?_ ?_ ?_) (fun es' s' hq => wpAny_bind (wpAny_mono hq (fun _ _ hq' => wpAny_pure (wpAny_pure hq')) fun _ _ h => h)) fun _ _ h => h)))
    · intro z hz
      rcases List.mem_cons.mp hz with rfl | hz
      · exact ⟨_, _, _, hSb1⟩
      · rw [List.mem_singleton.mp hz]; exact ⟨_, _, _, m.set⟩
    · intro k tk P₁ s₁ hfill h0 h1 hPk hP₁
      dsimp only
      have hun : ∀ (s₂ : Shared) (P₂ : Int → Bool), Fill s.heap.objs.size s₁ led P₂ s₂ → (∀ j, P₂ j = if j = k then (P₁ j || !P' j) else P₁ j) →
          wpAny (model prog w) A (Builtin.Frozenset.unchanged id a epa >>= fun _ => pure (ForInStep.yield PUnit.unit)) (fun r s' => r = .yield PUnit.unit ∧ Fill s.heap.objs.size s₁ led (fun j => if j = k then (P₁ j || !P' j) else P₁ j) s') E s₂ := fun s₂ P₂ hf₂ he =>
        wpAny_bind (unchanged_w ((hf₂.get had).trans ((hfill.get had).trans hoa1)) hda hfa (wpAny_pure ⟨rfl, hf₂.congr fun j => (he j).symm⟩))
      refine wpAny_bind (wpAny_holding (wpAny_bind (findS_w (hfill.hset hbd hSb1) fun r hr => wpAny_bind (wpAny_pure ?_))))
      rw [hr]
      split
      · rename_i hyk
        refine wpAny_bind (addS_w hfill.set h0 h1 fun s₂ hf₂ => wpAny_pure (hun s₂ _ hf₂ fun j => ?_))
        by_cases e : j = k
        · rw [if_pos e, e, hyk, decide_eq_true rfl]
        · rw [if_neg e, decide_eq_false e, Bool.or_false]
      · rename_i hyk
        refine wpAny_pure (hun s₁ P₁ (Fill.refl hfill.set) fun j => ?_)
        by_cases e : j = k
        · rw [if_pos e, e, Bool.eq_false_iff.mpr hyk, Bool.or_false]
        · rw [if_neg e]
    · intro s' hf
      refine h s' ((m.fill hf).congr fun k => ?_)
      cases P k <;> simp
theorem symUpdate_w {id : String} {Q : Unit → Shared → Prop} (hne : b ≠ d) (hS : HSet s.heap d g led P) (hSb : HSet s.heap b g' led P') (hled : led = !w.params.followText "set-order")
    (h : ∀ s', Fill d s led (fun j => if P' j then !P j else P j) s' → Q () s') : wpAny (model prog w) A (Builtin.Frozenset.symmetricDifferenceUpdate id d (.ref b)) Q E s := by
  have hSb' := hSb
  obtain ⟨ob, hob, SB⟩ := hSb
  have SB' := SB
  obtain ⟨hexb, eb, epb, tb, hdb, hEb, hfb, _⟩ := SB
  unfold Builtin.Frozenset.symmetricDifferenceUpdate
  have hbne : (Value.ref b == Value.ref d) = false := by simp [hne]
  rw [hbne]
  simp only [Bool.false_eq_true, if_false]
  refine wpAny_bind (wpAny_typeOf hSb'.typeIs ?_)
  rw [if_neg (by decide)]
  refine wpAny_bind (isAnySet_w hSb' ?_)
  simp only [if_true]
  refine wpAny_bind (wpAny_pure ?_)
  unfold Builtin.Frozenset.addrOf
  refine wpAny_bind (wpAny_pure ?_)
  refine wpAny_bind (setEpoch_w hob hdb hfb ?_)
  refine wpAny_holding (wpAny_bind (wpAny_mono (walkFill_w (Q := fun _ s' => Q () s') (G := fun j v => !v) hS hob hdb SB' hled ?_ ?_ ?_) (fun es' s' hq => wpAny_bind (wpAny_mono hq (fun _ _ hq' => wpAny_pure hq') fun _ _ h => h)) fun _ _ h => h))
  · intro z hz
    rw [List.mem_singleton.mp hz]; exact ⟨_, _, _, hS⟩
  · intro k tk P₁ s₁ hfill h0 h1 hPk hP₁
    dsimp only
    have hun : ∀ (s₂ : Shared) (P₂ : Int → Bool), Fill d s₁ led P₂ s₂ → (∀ j, P₂ j = if j = k then (!P₁ j) else P₁ j) →
        wpAny (model prog w) A (Builtin.Frozenset.unchanged id b epb >>= fun _ => pure (ForInStep.yield PUnit.unit)) (fun r s' => r = .yield PUnit.unit ∧ Fill d s₁ led (fun j => if j = k then (!P₁ j) else P₁ j) s') E s₂ := fun s₂ P₂ hf₂ he =>
      wpAny_bind (unchanged_w ((hf₂.get hne).trans ((hfill.get hne).trans hob)) hdb hfb (wpAny_pure ⟨rfl, hf₂.congr fun j => (he j).symm⟩))
    refine wpAny_bind (wpAny_holding (wpAny_bind (discard_w hfill.set fun s₂ hf₂ => ?_)))
    split
    · rename_i hyk
      rw [Bool.not_eq_true'] at hyk
      refine wpAny_bind (addS_w hf₂.set h0 h1 fun s₃ hf₃ => wpAny_pure (hun s₃ _ (hf₂.trans hf₃) fun j => ?_))
      by_cases e : j = k
      · rw [if_pos e, e, hyk, decide_eq_true rfl]; rfl
      · rw [if_neg e, decide_eq_false e]; simp
    · rename_i hyk
      have hyk' : P₁ k = true := by simpa using hyk
      refine wpAny_pure (hun s₂ _ hf₂ fun j => ?_)
      by_cases e : j = k
      · rw [if_pos e, e, hyk', decide_eq_true rfl]; rfl
      · rw [if_neg e, decide_eq_false e]; simp
  · intro s' hf
    exact h s' hf
end
end Mine
end
section
open PySem PySem.W PyProof.Rows
namespace Mine
theorem entry_set_or : entryFor table "set.__or__" = some Builtin.«frozenset.__or__» := entryFor_alias (id' := "frozenset.__or__") (by rw [fastTable_eq_tree]; kernel_rfl) rfl (by decide +kernel) (by rw [fastTable_eq_tree]; kernel_rfl)
theorem entry_set_and : entryFor table "set.__and__" = some Builtin.«frozenset.__and__» := entryFor_alias (id' := "frozenset.__and__") (by rw [fastTable_eq_tree]; kernel_rfl) rfl (by decide +kernel) (by rw [fastTable_eq_tree]; kernel_rfl)
theorem entry_set_sub : entryFor table "set.__sub__" = some Builtin.«frozenset.__sub__» := entryFor_alias (id' := "frozenset.__sub__") (by rw [fastTable_eq_tree]; kernel_rfl) rfl (by decide +kernel) (by rw [fastTable_eq_tree]; kernel_rfl)
theorem entry_set_xor : entryFor table "set.__xor__" = some Builtin.«frozenset.__xor__» := entryFor_alias (id' := "frozenset.__xor__") (by rw [fastTable_eq_tree]; kernel_rfl) rfl (by decide +kernel) (by rw [fastTable_eq_tree]; kernel_rfl)
theorem entry_set_iter : entryFor table "set.__iter__" = some Builtin.«frozenset.__iter__» := entryFor_alias (id' := "frozenset.__iter__") (by rw [fastTable_eq_tree]; kernel_rfl) rfl (by decide +kernel) (by rw [fastTable_eq_tree]; kernel_rfl)
section
variable {prog : Program} {w : World} {A : Around} {E : Value → Shared → Prop} {s : Shared} {a b d : Addr} {o oa ob od : Obj} {P P' : Int → Bool} {g g' g₂ led : Bool}
theorem Fr.grow {h₀ h h' : Heap} {L : Addr} {m : Str → Option Value} (F : Fr h₀ L h m) (e : ∀ b o, h.get? b = some o → h'.get? b = some o) : Fr h₀ L h' m := by
  obtain ⟨oL, a1, a2, hL, a3⟩ := F.ns
  exact ⟨⟨oL, a1, a2, e _ _ hL, a3⟩, fun b o' q => e _ _ (F.keep b o' q), F.above⟩
theorem News.made {h₀ : Heap} {L : Addr} {m : Str → Option Value} {news : List (Addr × Obj)} {s s' : Shared} (F : Fr h₀ L s.heap m) (N : News h₀ L s.heap news) (M : Made s led P s') :
    ∃ o, SetS false led o P ∧ News h₀ L s'.heap ((s.heap.objs.size, o) :: news) := by
  obtain ⟨o, ho, hS⟩ := M.set
  refine ⟨o, hS, fun p hp => ?_⟩
  rcases List.mem_cons.mp hp with rfl | hp
  · obtain ⟨oL, _, _, hL, _⟩ := F.ns
    refine ⟨ho, Nat.ne_of_gt (Heap.lt_size hL), ?_⟩
    cases hq : h₀.get? s.heap.objs.size with
    | none => rfl
    | some o' => exact absurd (Heap.lt_size (F.keep _ _ hq)) (Nat.lt_irrefl _)
  · exact ⟨M.ext _ _ (N p hp).1, (N p hp).2.1, (N p hp).2.2⟩
variable {h₀ : Heap} {L sa sb : Addr} {m : Str → Option Value} {news : List (Addr × Obj)} {sao sbo : Obj}
theorem N_set {sa : Addr} {so : Obj} (N : News h₀ L s.heap news) (hm : (sa, so) ∈ news) (hS : SetS g led so P) : HSet s.heap sa g led P := ⟨so, (N _ hm).1, hS⟩
def SetBack (h₀ : Heap) (L : Addr) (m : Str → Option Value) (news : List (Addr × Obj)) (s : Shared) (led : Bool) (P : Int → Bool) (Q : Value → Shared → Prop) : Prop :=
  ∀ d o h' tk, Fr h₀ L h' m → News h₀ L h' ((d, o) :: news) → (∀ p ∈ news, p.1 < d) → SetS false led o P → Q (.ref d) { s with heap := h', toks := tk }
theorem setBack {Q : Value → Shared → Prop} {s' : Shared} (F : Fr h₀ L s.heap m) (N : News h₀ L s.heap news) (M : Made s led P s') (h : SetBack h₀ L m news s led P Q) : Q (.ref s.heap.objs.size) s' := by
  obtain ⟨o, hS, N'⟩ := News.made F N M
  have := h _ o s'.heap s.toks (Fr.grow F M.ext) N' (fun p hp => Heap.lt_size (N p hp).1) hS
  have e := M.eq
  rw [e]; exact this
theorem set_or {Q : Value → Shared → Prop} (F : Fr h₀ L s.heap m) (N : News h₀ L s.heap news) (ha : (sa, sao) ∈ news) (hb : (sb, sbo) ∈ news) (SA : SetS g led sao P) (SB : SetS g' led sbo P') (hled : led = !w.params.followText "set-order") (hne : sa ≠ sb)
    (h : SetBack h₀ L m news s led (fun j => P j || P' j) Q) : wpAny (model prog w) A (binaryOp .BitOr (.ref sa) (.ref sb)) Q E s := by
  have HA := N_set N ha SA
  have HB := N_set N hb SB
  refine wpAny_binaryOp_same HA.typeIs HB.typeIs PySem.F.fills_set_or PySem.F.slot_set_or (wpAny_call_entry PySem.F.slot_set_or HA.typeIs entry_set_or ?_ (PySem.F.args_set_or_2 _ _))
  unfold Builtin.«frozenset.__or__»
  refine wpAny_bind (m := Builtin.Frozenset.slot1 "__or__" _) ?_
  unfold Builtin.Frozenset.slot1 slotArgs
  simp only [List.isEmpty_nil, Bool.not_true, Bool.false_eq_true, if_false, List.length_cons, List.length_nil, bne_self_eq_false, Nat.zero_add]
  refine wpAny_bind (wpAny_pure (wpAny_pure ?_))
  dsimp only
  show wpAny _ _ ((Builtin.Frozenset.isAnySet (.ref sa) >>= fun b => _) >>= fun c => _) _ _ _
  refine wpAny_bind (wpAny_bind (isAnySet_w HA ?_))
  refine isAnySet_w HB ?_
  simp only [Bool.not_true, Bool.false_eq_true, if_false]
  unfold Builtin.Frozenset.addrOf
  refine wpAny_bind (wpAny_pure ?_)
  refine wpAny_bind ?_
  refine wpAny_bind (m := Builtin.Frozenset.copyOf sa) (copy_w HA hled fun s' m => ?_)
  have hbne : (Value.ref sb != Value.ref sa) = true := by simp [bne, Ne.symm hne]
  rw [hbne]
  simp only [if_true]
  unfold Builtin.Frozenset.addrOf
  refine wpAny_bind (wpAny_pure ?_)
  refine wpAny_bind (wpAny_holding ?_)
  refine update_w (Ne.symm (Nat.ne_of_lt HB.lt)) m.set (HB.ext m.ext) hled fun s'' hf => ?_
  exact wpAny_pure (wpAny_pure ⟨_, rfl, (by intro e; cases e), setBack F N (m.fill hf) h⟩)
theorem set_and {Q : Value → Shared → Prop} (F : Fr h₀ L s.heap m) (N : News h₀ L s.heap news) (ha : (sa, sao) ∈ news) (hb : (sb, sbo) ∈ news) (SA : SetS g led sao P) (SB : SetS g' led sbo P') (hled : led = !w.params.followText "set-order") (hne : sa ≠ sb)
    (h : SetBack h₀ L m news s led (fun j => P j && P' j) Q) : wpAny (model prog w) A (binaryOp .BitAnd (.ref sa) (.ref sb)) Q E s := by
  have HA := N_set N ha SA
  have HB := N_set N hb SB
  refine wpAny_binaryOp_same HA.typeIs HB.typeIs PySem.F.fills_set_and PySem.F.slot_set_and (wpAny_call_entry PySem.F.slot_set_and HA.typeIs entry_set_and ?_ (PySem.F.args_set_and_2 _ _))
  unfold Builtin.«frozenset.__and__»
  refine wpAny_bind (m := Builtin.Frozenset.slot1 "__and__" _) ?_
  unfold Builtin.Frozenset.slot1 slotArgs
  simp only [List.isEmpty_nil, Bool.not_true, Bool.false_eq_true, if_false, List.length_cons, List.length_nil, bne_self_eq_false, Nat.zero_add]
  refine wpAny_bind (wpAny_pure (wpAny_pure ?_))
  dsimp only
  show wpAny _ _ ((Builtin.Frozenset.isAnySet (.ref sa) >>= fun b => _) >>= fun c => _) _ _ _
  refine wpAny_bind (wpAny_bind (isAnySet_w HA ?_))
  refine isAnySet_w HB ?_
  simp only [Bool.not_true, Bool.false_eq_true, if_false]
  unfold Builtin.Frozenset.addrOf
  refine wpAny_bind (wpAny_pure ?_)
  refine wpAny_bind (inter_w HA HB hled hne fun s' m => ?_)
  exact wpAny_pure ⟨_, rfl, (by intro e; cases e), setBack F N m h⟩
theorem set_sub {Q : Value → Shared → Prop} (F : Fr h₀ L s.heap m) (N : News h₀ L s.heap news) (ha : (sa, sao) ∈ news) (hb : (sb, sbo) ∈ news) (SA : SetS g led sao P) (SB : SetS g' led sbo P') (hled : led = !w.params.followText "set-order")
    (h : SetBack h₀ L m news s led (fun j => P j && !P' j) Q) : wpAny (model prog w) A (binaryOp .Sub (.ref sa) (.ref sb)) Q E s := by
  have HA := N_set N ha SA
  have HB := N_set N hb SB
  refine wpAny_binaryOp_same HA.typeIs HB.typeIs PySem.F.fills_set_sub PySem.F.slot_set_sub (wpAny_call_entry PySem.F.slot_set_sub HA.typeIs entry_set_sub ?_ (PySem.F.args_set_sub_2 _ _))
  unfold Builtin.«frozenset.__sub__»
  refine wpAny_bind (m := Builtin.Frozenset.slot1 "__sub__" _) ?_
  unfold Builtin.Frozenset.slot1 slotArgs
  simp only [List.isEmpty_nil, Bool.not_true, Bool.false_eq_true, if_false, List.length_cons, List.length_nil, bne_self_eq_false, Nat.zero_add]
  refine wpAny_bind (wpAny_pure (wpAny_pure ?_))
  dsimp only
  show wpAny _ _ ((Builtin.Frozenset.isAnySet (.ref sa) >>= fun b => _) >>= fun c => _) _ _ _
  refine wpAny_bind (wpAny_bind (isAnySet_w HA ?_))
  refine isAnySet_w HB ?_
  simp only [Bool.not_true, Bool.false_eq_true, if_false]
  unfold Builtin.Frozenset.addrOf
  refine wpAny_bind (wpAny_pure ?_)
  refine wpAny_bind (diff_w HA HB hled fun s' m => ?_)
  exact wpAny_pure ⟨_, rfl, (by intro e; cases e), setBack F N m h⟩
theorem set_xor {Q : Value → Shared → Prop} (F : Fr h₀ L s.heap m) (N : News h₀ L s.heap news) (ha : (sa, sao) ∈ news) (hb : (sb, sbo) ∈ news) (SA : SetS g led sao P) (SB : SetS g' led sbo P') (hled : led = !w.params.followText "set-order")
    (h : SetBack h₀ L m news s led (fun j => P j ^^ P' j) Q) : wpAny (model prog w) A (binaryOp .BitXor (.ref sa) (.ref sb)) Q E s := by
  have HA := N_set N ha SA
  have HB := N_set N hb SB
  refine wpAny_binaryOp_same HA.typeIs HB.typeIs PySem.F.fills_set_xor PySem.F.slot_set_xor (wpAny_call_entry PySem.F.slot_set_xor HA.typeIs entry_set_xor ?_ (PySem.F.args_set_xor_2 _ _))
  unfold Builtin.«frozenset.__xor__»
  refine wpAny_bind (m := Builtin.Frozenset.slot1 "__xor__" _) ?_
  unfold Builtin.Frozenset.slot1 slotArgs
  simp only [List.isEmpty_nil, Bool.not_true, Bool.false_eq_true, if_false, List.length_cons, List.length_nil, bne_self_eq_false, Nat.zero_add]
  refine wpAny_bind (wpAny_pure (wpAny_pure ?_))
  dsimp only
  show wpAny _ _ ((Builtin.Frozenset.isAnySet (.ref sa) >>= fun b => _) >>= fun c => _) _ _ _
  refine wpAny_bind (wpAny_bind (isAnySet_w HA ?_))
  refine isAnySet_w HB ?_
  simp only [Bool.not_true, Bool.false_eq_true, if_false]
  unfold Builtin.Frozenset.addrOf
  refine wpAny_bind (wpAny_pure ?_)
  refine wpAny_bind ?_
  refine wpAny_bind (m := Builtin.Frozenset.baseOf sa) (baseOf_w HA ?_)
  refine wpAny_bind (m := Builtin.Frozenset.newFrom _ _ _) ?_
  unfold Builtin.Frozenset.newFrom
  refine wpAny_bind (newSet_w ?_)
  rw [← hled]
  unfold Builtin.Frozenset.addrOf
  have m := made_fresh (s := s) (led := led)
  refine wpAny_bind (wpAny_pure ?_)
  refine wpAny_bind (wpAny_holding ?_)
  refine update_w (s := { s with heap := s.heap.push (freshSet led) }) (Ne.symm (Nat.ne_of_lt HB.lt)) m.set (HB.ext m.ext) hled fun s' hf => ?_
  have m' := m.fill hf
  refine wpAny_pure ?_
  refine wpAny_bind (wpAny_pure ?_)
  refine wpAny_bind (wpAny_holding ?_)
  refine symUpdate_w (Nat.ne_of_lt HA.lt) m'.set (HA.ext m'.ext) hled fun s'' hf' => wpAny_pure ?_
  refine wpAny_pure ⟨_, rfl, (by intro e; cases e), setBack F N ((m'.fill hf').congr fun k => ?_) h⟩
  cases P k <;> cases P' k <;> rfl
end
end Mine
end
section
open PySem PySem.W PyProof.Rows
set_option maxRecDepth 100000
namespace Mine
theorem owner_sit : Manifest.owners.lookup (String.ofList ['r', 'o', 't', 'a', 'r', 'e', 't', 'i', '_', 't', 'e', 's'].reverse) = some Manifest.sig_set_iterator := by kernel_rfl
theorem slot_sit_next : Slot "set_iterator" "__next__" "set_iterator.__next__" :=
  .of (owner := "set_iterator") (n := "__next__") (by rw [typeLookup_type, builtinLookup_eq_fast]; kernel_rfl) (by decide +kernel) (by decide +kernel) (by decide +kernel)
    (by first | exact .inl (by decide +kernel) | exact .inr (by decide +kernel)) (by rw [isSubtype_type]; kernel_rfl)
theorem entry_sit_next : entryFor table "set_iterator.__next__" = some Builtin.«set_iterator.__next__» := entryFor_of_tree (by kernel_rfl)
theorem args_sit_next_1 (a : Value) : argsOk "set_iterator.__next__" ⟨[a], []⟩ := by
  unfold argsOk; rw [signature?_of (id := "set_iterator.__next__") (n := ['_', '_', 't', 'x', 'e', 'n', '_', '_']) (o := ['r', 'o', 't', 'a', 'r', 'e', 't', 'i', '_', 't', 'e', 's']) (by kernel_rfl) owner_sit]; kernel_rfl
theorem slot_sit_iter : Slot "set_iterator" "__iter__" "set_iterator.__iter__" :=
  .of (owner := "set_iterator") (n := "__iter__") (by rw [typeLookup_type, builtinLookup_eq_fast]; kernel_rfl) (by decide +kernel) (by decide +kernel) (by decide +kernel)
    (by first | exact .inl (by decide +kernel) | exact .inr (by decide +kernel)) (by rw [isSubtype_type]; kernel_rfl)
theorem args_sit_iter_1 (a : Value) : argsOk "set_iterator.__iter__" ⟨[a], []⟩ := by
  unfold argsOk; rw [signature?_of (id := "set_iterator.__iter__") (n := ['_', '_', 'r', 'e', 't', 'i', '_', '_']) (o := ['r', 'o', 't', 'a', 'r', 'e', 't', 'i', '_', 't', 'e', 's']) (by kernel_rfl) owner_sit]; kernel_rfl
theorem entry_sit_iter : entryFor table "set_iterator.__iter__" = some Builtin.«dict_keyiterator.__iter__» := entryFor_alias (id' := "dict_keyiterator.__iter__") (by rw [fastTable_eq_tree]; kernel_rfl) rfl (by decide +kernel) (by rw [fastTable_eq_tree]; kernel_rfl)
end Mine
end
section
open PySem PySem.W PyProof.Rows
set_option maxRecDepth 100000
namespace Mine
section
variable {prog : Program} {w : World} {A : Around} {E : Value → Shared → Prop} {s : Shared} {a I : Addr} {o : Obj} {P : Int → Bool} {led : Bool}
def slotAt (byText : Bool) (t : SetTable) (i : Nat) : Nat := if byText then 0 else if i = 0 then 0 else t.place.getD (i - 1) 0 + 1
def orderOf (w : World) (a : Addr) (es : Array (Int × Value)) (ep : Nat) : Array (Int × Value) :=
  if w.params.followText "set-order" then pickOrder (w.params.setOrder a ep) es else es
theorem orderOf_perm (w : World) (a : Addr) (es : Array (Int × Value)) (ep : Nat) : (orderOf w a es ep).toList.Perm es.toList := by
  unfold orderOf; split
  · exact pickOrder_perm _ _
  · exact .refl _
def sitObj (w : World) (a : Addr) (t : SetTable) (n ep i : Nat) : Obj :=
  { cls := .type "set_iterator", data := .fields #[.int (slotAt (w.params.followText "set-order") t i : Nat) 0, .int (i : Nat) 0, .ref a, .int (n : Nat) 0, .int (ep : Nat) 0] }
theorem setNext_w {es : Array (Int × Value)} {ep : Nat} {t : SetTable} {i : Nat} {Q : Option (Value × Nat) → Shared → Prop} (ho : s.heap.get? a = some o) (hd : o.data = .set es ep t) (hf : t.fits es.size = true) (hg : GoodT led t es.size)
    (hled : led = !w.params.followText "set-order") (hi : i ≤ es.size)
    (h : Q (((orderOf w a es ep)[i]?).map fun e => (e.2, slotAt (w.params.followText "set-order") t (i + 1))) s) :
    wpAny (model prog w) A (setNext a (slotAt (w.params.followText "set-order") t i) i ep) Q E s := by
  unfold setNext
  refine wpAny_bind (wpAny_setState_of ho hd hf ?_)
  dsimp only
  refine wpAny_bind (byText_w ?_)
  cases hb : w.params.followText "set-order" with
  | true =>
    simp only [if_true, bne_self_eq_false, Bool.false_eq_true, if_false]
    unfold setWalk
    refine wpAny_bind (wpAny_bind (wpAny_setState_of ho hd hf ?_))
    dsimp only
    refine wpAny_bind (byText_w ?_)
    rw [hb]
    simp only [if_true]
    refine wpAny_bind (wpAny_askSetting (wpAny_pure ?_))
    refine wpAny_pure ?_
    simp only [orderOf, hb, if_true, slotAt] at h ⊢
    exact h
  | false =>
    simp only [Bool.false_eq_true, if_false]
    have hl : t.led = true := by rw [hg.led, hled, hb]; rfl
    have hp := hg.plain
    show wpAny _ _ (if (!t.plain && decide (es.size > 1)) = true then _ else ((if (!t.led && !es.isEmpty) = true then unsupported "set:maker-not-led" else pure ()) >>= fun _ => _)) _ _ _
    rw [hp, hl]
    simp only [Bool.not_true, Bool.false_and, Bool.false_eq_true, if_false]
    refine wpAny_bind (wpAny_pure ?_)
    have hb2 : SetTable.below t.place (slotAt false t i) = i := by
      unfold slotAt
      simp only [Bool.false_eq_true, if_false]
      by_cases h0 : i = 0
      · subst h0
        rw [if_pos rfl]
        exact below_eq hg.rise (Nat.zero_le _) (fun k hk => absurd hk (Nat.not_lt_zero _)) fun _ => Nat.zero_le _
      · rw [if_neg h0]
        refine below_eq hg.rise (by rw [hg.size]; exact hi) (fun k hk => ?_) fun hlt => ?_
        · rcases Nat.lt_or_eq_of_le (show k ≤ i - 1 by omega) with h1 | h1
          · exact Nat.lt_succ_of_lt (hg.rise k (i - 1) h1 (by rw [hg.size]; omega))
          · rw [h1]; exact Nat.lt_succ_self _
        · exact hg.rise (i - 1) i (by omega) hlt
    rw [hb2]
    refine wpAny_pure ?_
    simp only [orderOf, hb, Bool.false_eq_true, if_false] at h
    by_cases hlt : i < es.size
    · have hlt2 : i < t.place.size := by rw [hg.size]; exact hlt
      rw [Array.getElem?_eq_getElem hlt, Array.getElem?_eq_getElem hlt2]
      rw [Array.getElem?_eq_getElem hlt] at h
      simp only [Option.map_some, slotAt, Bool.false_eq_true, if_false, Nat.add_sub_cancel, Array.getD, hlt2, dif_pos] at h
      rw [if_neg (by omega)] at h
      exact h
    · rw [Array.getElem?_eq_none (Nat.not_lt.mp hlt)] at h ⊢
      exact h
theorem next_item {es : Array (Int × Value)} {ep : Nat} {t : SetTable} {i : Nat} {Q : Option Value → Shared → Prop} (hI : s.heap.get? I = some (sitObj w a t es.size ep i)) (hne : a ≠ I)
    (ho : s.heap.get? a = some o) (hd : o.data = .set es ep t) (hf : t.fits es.size = true) (hg : GoodT led t es.size) (hled : led = !w.params.followText "set-order") {e : Int × Value} (he : (orderOf w a es ep)[i]? = some e)
    (hQ : ∀ h', h'.get? I = some (sitObj w a t es.size ep (i + 1)) → Heap.SameBut I s.heap h' → Q (some e.2) { s with heap := h' }) : wpAny (model prog w) A (pyNext (.ref I)) Q E s := by
  have hT : s.TypeIs (.ref I) "set_iterator" := ⟨_, hI, rfl⟩
  have hsz : (orderOf w a es ep).size = es.size := by rw [← Array.length_toList, (orderOf_perm w a es ep).length_eq, Array.length_toList]
  have hlt : i < es.size := by rw [← hsz]; exact (Array.getElem?_eq_some_iff.mp he).1
  unfold pyNext
  refine wpAny_bind (wpAny_attempt (wpAny_callSpecial?_slot (name := Str.ofString "__next__") hT slot_sit_next
    (wpAny_call_entry slot_sit_next hT entry_sit_next ?_ (args_sit_next_1 _))))
  unfold Builtin.«set_iterator.__next__»
  refine wpAny_bind (wpAny_pure ?_)
  refine wpAny_bind (wpAny_fieldsOf hI rfl ?_)
  dsimp only
  refine wpAny_bind (wpAny_setEntries_of ho hd hf ?_)
  simp only [bne_self_eq_false, Bool.false_eq_true, if_false]
  simp only [Int.toNat_natCast]
  refine wpAny_bind (setNext_w ho hd hf hg hled (Nat.le_of_lt hlt) ?_)
  rw [he]
  dsimp only [Option.map_some]
  refine wpAny_bind (wpAny_setField hI rfl (by simp) ?_)
  have h1 : (s.heap.update I (Obj.mapFields (·.setIfInBounds 0 (rawInt (slotAt (w.params.followText "set-order") t (i + 1) : Nat))))).get? I = some (Obj.mapFields (·.setIfInBounds 0 (rawInt (slotAt (w.params.followText "set-order") t (i + 1) : Nat))) (sitObj w a t es.size ep i)) :=
    Heap.get?_update_self _ hI (Obj.isFreed_of_fields (Obj.data_mapFields rfl _))
  refine wpAny_bind (wpAny_setField (s := { s with heap := _ }) h1 (Obj.data_mapFields rfl _) (by simp) ?_)
  refine wpAny_pure ⟨_, rfl, wpAny_pure (hQ _ ?_ ((Heap.SameBut.update ..).trans (Heap.SameBut.update ..)))⟩
  rw [Heap.get?_update_self _ h1 (Obj.isFreed_of_fields (Obj.data_mapFields (Obj.data_mapFields rfl _) _))]
  rfl
theorem next_done {es : Array (Int × Value)} {ep : Nat} {t : SetTable} {Q : Option Value → Shared → Prop} (hh : A.handled = none) (hI : s.heap.get? I = some (sitObj w a t es.size ep es.size)) (hne : a ≠ I)
    (ho : s.heap.get? a = some o) (hd : o.data = .set es ep t) (hf : t.fits es.size = true) (hg : GoodT led t es.size) (hled : led = !w.params.followText "set-order")
    (hQ : ∀ h', Heap.ExtBut I s.heap h' → Q none { s with heap := h' }) : wpAny (model prog w) A (pyNext (.ref I)) Q E s := by
  have hT : s.TypeIs (.ref I) "set_iterator" := ⟨_, hI, rfl⟩
  have hsz : (orderOf w a es ep).size = es.size := by rw [← Array.length_toList, (orderOf_perm w a es ep).length_eq, Array.length_toList]
  unfold pyNext
  refine wpAny_bind (wpAny_attempt (wpAny_callSpecial?_slot (name := Str.ofString "__next__") hT slot_sit_next
    (wpAny_call_entry slot_sit_next hT entry_sit_next ?_ (args_sit_next_1 _))))
  unfold Builtin.«set_iterator.__next__»
  refine wpAny_bind (wpAny_pure ?_)
  refine wpAny_bind (wpAny_fieldsOf hI rfl ?_)
  dsimp only
  refine wpAny_bind (wpAny_setEntries_of ho hd hf ?_)
  simp only [bne_self_eq_false, Bool.false_eq_true, if_false]
  simp only [Int.toNat_natCast]
  refine wpAny_bind (setNext_w ho hd hf hg hled (Nat.le_refl _) ?_)
  rw [Array.getElem?_eq_none (by omega)]
  dsimp only [Option.map_none]
  refine wpAny_bind (wpAny_setField hI rfl (by simp) ?_)
  show wpAny _ _ (newExc (.type "StopIteration") [] >>= _) _ _ _
  refine wpAny_bind ?_
  simp only [newExc, newTuple]
  refine wpAny_bind (wpAny_newObj_type ?_ (by size_fits))
  refine wpAny_bind (m := firstArgMember _ _) (wpAny_of_eq (a := Value.none) (by first | rfl | (simp only [firstArgMember]; rfl)) ?_)
  refine wpAny_newObj_type ?_ (by size_fits)
  simp only [raiseNew]
  refine wpAny_bind (wpAny_handled ?_)
  rw [show A.in1.handled = none from hh]
  refine wpAny_bind (wpAny_pure (wpAny_throw ?_))
  refine wpAny_bind (wpAny_isInstance (T := "StopIteration") (b := true) ⟨_, Heap.get?_push_size _ rfl, rfl⟩ isSubtype_stop ?_)
  exact wpAny_pure (hQ _ (((Heap.SameBut.update ..).extBut.push _).push _))
theorem Walks.set {es : Array (Int × Value)} {ep : Nat} {t : SetTable} (hh : A.handled = none) (hne : a ≠ I) (hd : o.data = .set es ep t) (hf : t.fits es.size = true) (hg : GoodT led t es.size) (hled : led = !w.params.followText "set-order") :
    Walks prog w A I [I, a] [I] es.size (fun i v => ∃ e, (orderOf w a es ep)[i]? = some e ∧ v = e.2) (fun i h => h.get? I = some (sitObj w a t es.size ep i) ∧ h.get? a = some o) where
  sub := fun b hb => by simp at hb; simp [hb]
  frame := fun _ _ _ st hk => ⟨hk I (by simp) _ st.1, hk a (by simp) _ st.2⟩
  item := fun i s Q E hi st hQ => by
    have hsz : (orderOf w a es ep).size = es.size := by rw [← Array.length_toList, (orderOf_perm w a es ep).length_eq, Array.length_toList]
    have he : (orderOf w a es ep)[i]? = some ((orderOf w a es ep)[i]'(by omega)) := Array.getElem?_eq_getElem _
    refine next_item st.1 hne st.2 hd hf hg hled he fun h' h1 h2 => ?_
    exact hQ _ h' s.toks ⟨_, he, rfl⟩ ⟨h1, (h2.2 a hne).trans st.2⟩ fun b o hb e => (h2.2 b (fun h => hb (by simp [h]))).trans e
  done := fun s Q E st hQ => next_done hh st.1 hne st.2 hd hf hg hled fun h' he' => hQ h' s.toks fun b o hb e => he' b o (fun h => hb (by simp [h])) e
  self := fun i s Q E st hQ => by
    have hT : s.TypeIs (.ref I) "set_iterator" := ⟨_, st.1, rfl⟩
    refine wpAny_pyIter_slot hT slot_sit_iter (wpAny_call_entry slot_sit_iter hT entry_sit_iter ?_ (args_sit_iter_1 _))
    show wpAny _ _ (ret (.ref I)) _ _ s
    exact wpAny_pure ⟨_, rfl, "set_iterator", _, hT, slot_sit_next.lookup, hQ⟩
theorem iter_set {es : Array (Int × Value)} {ep : Nat} {t : SetTable} {Q : Value → Shared → Prop} (ho : s.heap.get? a = some o) (hex : o.ExactSet) (hd : o.data = .set es ep t) (hf : t.fits es.size = true) (hg : GoodT led t es.size)
    (h : Q (.ref s.heap.objs.size) { s with heap := s.heap.push (sitObj w a t es.size ep 0) }) : wpAny (model prog w) A (pyIter (.ref a)) Q E s := by
  have hT : s.TypeIs (.ref a) "set" := ⟨o, ho, hex.1⟩
  refine wpAny_pyIter_slot hT PySem.F.slot_set_iter (wpAny_call_entry PySem.F.slot_set_iter hT entry_set_iter ?_ (PySem.F.args_set_iter_1 _))
  unfold Builtin.«frozenset.__iter__» Builtin.Frozenset.slot0 slotArgs
  simp only [List.isEmpty_nil, Bool.not_true, Bool.false_eq_true, if_false, List.length_nil, bne_self_eq_false]
  unfold Builtin.Frozenset.addrOf
  refine wpAny_bind (wpAny_bind (wpAny_pure (wpAny_pure ?_)))
  refine wpAny_bind (sizeOf_w ho hd hf ?_)
  unfold setDrawn
  refine wpAny_bind (wpAny_bind (wpAny_setState_of ho hd hf ?_))
  dsimp only
  refine wpAny_bind (byText_w (wpAny_pure ?_))
  have hdr : (!w.params.followText "set-order" && (!t.plain && decide (es.size > 1))) = false := by rw [hg.plain]; simp
  have hdr2 : ∀ X Y : Sem Value, (if (!w.params.followText "set-order" && (!t.plain && decide (es.size > 1))) = true then X else Y) = Y := fun X Y => by rw [hdr]; rfl
  show wpAny _ _ (if (!w.params.followText "set-order" && (!t.plain && decide (es.size > 1))) = true then _ else _) _ _ _
  rw [if_neg (by rw [hdr]; exact Bool.false_ne_true)]
  refine wpAny_bind (wpAny_pure ?_)
  refine wpAny_bind (setEpoch_w ho hd hf ?_)
  refine wpAny_bind (wpAny_newObj_type (wpAny_pure ⟨_, rfl, "set_iterator", _, ⟨_, Heap.get?_push_size _ rfl, rfl⟩, slot_sit_next.lookup, ?_⟩))
  have e : slotAt (w.params.followText "set-order") t 0 = 0 := by unfold slotAt; split <;> simp
  simp only [sitObj, e] at h
  exact h
end
end Mine
end
section
open PySem PySem.W PyProof.Rows
set_option maxRecDepth 100000
namespace Mine
section
variable {prog : Program} {w : World} {A : Around} {E : Value → Shared → Prop} {s : Shared} {sa : Addr} {so : Obj} {P : Int → Bool} {g led : Bool} {h₀ : Heap} {L : Addr} {m : Str → Option Value} {news : List (Addr × Obj)} {upd : Obj → List (Addr × Obj)}
theorem code_new {Q₁ : Value → Shared → Prop} (h : Q₁ (.ref s.heap.objs.size) { s with heap := s.heap.push (freshSet (!w.params.followText "set-order")) }) :
    codeAny (model prog w) A (.call (.builtin "set.__new__") ⟨[.type "set"], []⟩) (wants Q₁ E) s := by
  refine codeAny_of_tree ?_
  show wpAny _ A.in1 (do checkBuiltinCall "set.__new__" ⟨[.type "set"], []⟩; again (.builtin "set.__new__" ⟨[.type "set"], []⟩)) _ _ s
  refine wpAny_bind (wpAny_of_eq PySem.F.newCall_set_0 (wpAny_pure ⟨plainId_quiet PySem.F.plain_set_new _, codeAny_builtin PySem.F.entry_set_new ?_⟩))
  rw [Around.under_plainId PySem.F.plain_set_new _]
  unfold Builtin.«set.__new__» Builtin.Frozenset.newClass
  have hsub := sub_set_self
  obtain ⟨hp, gg, d, tk, os⟩ := s
  dsimp only
  wp_walk
  refine wpAny_askSetting (wpAny_pure ?_)
  dsimp only
  simp only [newObj]
  refine wpAny_bind (wpAny_alloc (wpAny_pure ?_))
  exact wpAny_pure h
set_option maxHeartbeats 1000000 in
theorem call_new {Q : Value → Shared → Prop} (h : Q (.ref s.heap.objs.size) { s with heap := s.heap.push (freshSet (!w.params.followText "set-order")) }) :
    wpAny (model prog w) A (call (.type "set") []) Q E s := by
  obtain ⟨c, tl, hmro⟩ := PySem.F.called_set.mro
  have hmade := PySem.F.called_set.made
  have hsub := PySem.F.called_set.sub
  refine wpAny_call (codeAny_of_tree ?_)
  show wpAny _ _ (callAny (.type "set") _) _ _ _
  refine wpAny_pure ⟨Code.quiet_builtin _ (by decide +kernel), codeAny_builtin PySem.F.entry_type_call ?_⟩
  rw [Around.under_plain (weight_type_call_type "set" [] []) rfl]
  have h1 := PySem.F.called_set.notType
  have h2 := PySem.F.called_set.canCreate
  have hct := PySem.F.typeCall_set_0
  repeat (any_goals (first | assumption | wp_step))
  refine codeAny_mono (code_new (E := E) (Q₁ := fun obj s₁ => obj = .ref s.heap.objs.size ∧ s₁ = { s with heap := s.heap.push (freshSet (!w.params.followText "set-order")) }) ⟨rfl, rfl⟩) fun r s₁ hr => ?_
  cases r with
  | error e => exact hr
  | ok fl =>
    cases fl with
    | ret obj =>
      obtain ⟨rfl, rfl⟩ := hr
      have hS : (s.heap.push (freshSet (!w.params.followText "set-order"))).get? s.heap.objs.size = some (freshSet (!w.params.followText "set-order")) := Heap.get?_push_size _ rfl
      have hT : Shared.TypeIs { s with heap := s.heap.push (freshSet (!w.params.followText "set-order")) } (.ref s.heap.objs.size) "set" := ⟨_, hS, rfl⟩
      have hli := PySem.F.called_set.init.lookup
      have hbi := PySem.F.called_set.init.bind (.ref s.heap.objs.size)
      repeat (any_goals (first | assumption | wp_step))
      refine codeAny_mono (codeAny_call_builtin (R := wants (fun r s₂ => r = .none ∧ Q (.ref s.heap.objs.size) s₂) E) PySem.F.called_set.init.plain PySem.F.entry_set_init (check_set_init hT ?_)) fun r₂ s₂ hr₂ => ?_
      · unfold Builtin.«set.__init__» noKeywords
        wp_walk
        exact ⟨rfl, h⟩
      · cases r₂ with
        | error e => exact hr₂
        | ok fl₂ =>
          cases fl₂ with
          | ret r =>
            obtain ⟨rfl, hq⟩ := hr₂
            repeat (any_goals (first | assumption | wp_step))
          | _ => exact hr₂.elim
    | _ => exact hr.elim
theorem set_new {Q : Value → Shared → Prop} (F : Fr h₀ L s.heap m) (N : News h₀ L s.heap news)
    (h : ∀ D o h', Fr h₀ L h' m → News h₀ L h' ((D, o) :: news) → (∀ p ∈ news, p.1 < D) → SetS true (!w.params.followText "set-order") o (fun _ => false) → Q (.ref D) { s with heap := h' }) :
    wpAny (model prog w) A (call (.type "set") []) Q E s :=
  call_new (h _ _ _ (F.push _) (N.push F _) (fun p hp => Heap.lt_size (N p hp).1) (setS_fresh _))
theorem set_method {pl : Sem Bool} {Q : Value × List Value → Shared → Prop} (N : News h₀ L s.heap news) (hm : (sa, so) ∈ news) (hS : SetS g led so P) (h : Q (.builtin "set.add", [.ref sa]) s) :
    wpAny (model prog w) A (getMethod (.ref sa) "add" pl) Q E s :=
  getMethod_builtin (N_set N hm hS).typeIs PySem.F.plainAttrs_set PySem.F.slot_set_add PySem.F.type_set_add (fun b e => by injection e with e; subst e; exact ⟨so, (N _ hm).1, hS.1.2.1⟩) h
theorem set_add {k : Int} {tk : Tok} {Q : Value → Shared → Prop} (F : Fr h₀ L s.heap m) (N : News h₀ L s.heap news) (U : UpdF sa so news upd) (hS : SetS g led so P) (h0 : 0 ≤ k) (h1 : k < 152)
    (h : ∀ h' so', Fr h₀ L h' m → News h₀ L h' (upd so') → SetS g led so' (fun j => P j || decide (j = k)) → Q .none { s with heap := h', toks := s.toks + 1 }) :
    wpAny (model prog w) A (call (.builtin "set.add") [.ref sa, .int k tk]) Q E s := by
  obtain ⟨pre, post, rfl, hg, a, b⟩ := U.split
  have hm := N _ (List.mem_append_right _ (.head _))
  have hT : s.TypeIs (.ref sa) "set" := ⟨so, hm.1, hS.1.1⟩
  refine wpAny_call_entry PySem.F.slot_set_add hT PySem.F.entry_set_add ?_ (PySem.F.args_set_add_2 _ _)
  unfold Builtin.«set.add» Builtin.Frozenset.oneOther
  simp only [List.isEmpty_nil, bind_assoc]
  unfold Builtin.Frozenset.addrOf setAdd
  refine wpAny_bind (wpAny_pure ?_)
  try dsimp only
  refine wpAny_bind (wpAny_pure ?_)
  try dsimp only
  refine wpAny_bind ?_
  refine wpAny_holding ?_
  refine wpAny_bind ((intKind prog w).pyHash (intKind_is _ _ k tk) ?_)
  refine setAdd_w (s := { s with toks := s.toks + 1 }) hm.1 hS h0 h1 fun h' o' hsb ho' hS' => ?_
  show wpAny _ _ (ret Value.none) _ _ _
  exact wpAny_pure ⟨_, rfl, h h' o' (F.change hsb hm.2.1 hm.2.2) (hg o' ▸ N.setIn a b hsb ho') hS'⟩
theorem set_in {k : Int} {tk : Tok} {Q : Value → Shared → Prop} (N : News h₀ L s.heap news) (hm : (sa, so) ∈ news) (hS : SetS g led so P) (h : Q (.bool (P k)) { s with toks := s.toks + 1 }) :
    wpAny (model prog w) A (compareOp .In (.int k tk) (.ref sa)) Q E s := by
  obtain ⟨n, hn, ho⟩ := hS.objOf (prog := prog) (w := w)
  exact wpAny_inSet_of (intKind_is _ _ k tk) rfl (ho.setOf (N _ hm).1 (by unfold scanBound; omega)) h
def cnt (P : Int → Bool) : Nat := (List.range 152).countP fun (i : Nat) => P (i : Int)
theorem Ents.count {es : List (Int × Value)} (h : Ents es P) : es.length = cnt P := by
  have h2 : (((List.range 152).filter fun (i : Nat) => P (i : Int)).map fun (i : Nat) => (i : Int)).Nodup :=
    List.Pairwise.map _ (fun (a b : Nat) (hab : a ≠ b) => by intro e; exact hab (Int.ofNat.inj e)) (List.Pairwise.filter _ List.nodup_range)
  have l1 := List.Nodup.length_le_of_subset h.nodup (l₂ := (((List.range 152).filter fun (i : Nat) => P (i : Int)).map fun (i : Nat) => (i : Int))) (fun k hk => by
    have hP := (h.mem k).mpr hk
    have hs := h.small k hP
    refine List.mem_map.mpr ⟨k.toNat, List.mem_filter.mpr ⟨List.mem_range.mpr (by omega), ?_⟩, by omega⟩
    rw [show ((k.toNat : Nat) : Int) = k by omega]; exact hP)
  have l2 := List.Nodup.length_le_of_subset h2 (l₂ := es.map key) (fun k hk => by
    obtain ⟨i, hi, rfl⟩ := List.mem_map.mp hk
    exact (h.mem _).mp (List.mem_filter.mp hi).2)
  simp only [List.length_map] at l1 l2
  unfold cnt
  rw [List.countP_eq_length_filter]
  omega
theorem cnt_le (P : Int → Bool) : cnt P ≤ 152 := by
  unfold cnt
  have := List.countP_le_length (p := fun (i : Nat) => P (i : Int)) (l := List.range 152)
  simpa using this
theorem set_len {Q : Value → Shared → Prop} (N : News h₀ L s.heap news) (hm : (sa, so) ∈ news) (hS : SetS g led so P) (h : Q (.int (cnt P : Nat) (s.toks + 1)) { s with toks := s.toks + 1 + 1 }) :
    wpAny (model prog w) A (call (.builtin "len") [.ref sa]) Q E s := by
  obtain ⟨hex, es, ep, t, hd, hE, hf, _⟩ := hS
  have hsz : es.size = cnt P := by rw [← hE.count, Array.length_toList]
  have := cnt_le P
  refine call_len_set (N _ hm).1 hex hd hf (by omega) ?_
  rw [hsz]; exact h
theorem noBool_set : typeLookup (.type "set") "__bool__" = pure none := by rw [typeLookup_type, builtinLookup_eq_fast]; kernel_rfl
theorem set_truthy {Q : Bool → Shared → Prop} (N : News h₀ L s.heap news) (hm : (sa, so) ∈ news) (hS : SetS g led so P) (h : Q (decide (cnt P ≠ 0)) { s with toks := s.toks + 1 + 1 }) :
    wpAny (model prog w) A (truthy (.ref sa)) Q E s := by
  have hT := (N_set N hm hS).typeIs
  obtain ⟨hex, es, ep, t, hd, hE, hf, _⟩ := hS
  have hsz : es.size = cnt P := by rw [← hE.count, Array.length_toList]
  have hle := cnt_le P
  have hne : ((((es.size : Nat) : Int)) != 0) = decide (cnt P ≠ 0) := by
    rw [hsz, Bool.eq_iff_iff]
    simp
  have key : wpAny (model prog w) A (runValue (.builtin "len" ⟨[.ref sa], []⟩)) (fun r s' => r = .int es.size (s.toks + 1) ∧ Q (decide (cnt P ≠ 0)) s') E s := by
    refine wpAny_runValue (codeAny_builtin entry_len ?_)
    rw [Around.under_plainId plain_len _]
    exact wpAny_mono (wpAny_len_body_set (Q := fun r s' => r = .int es.size (s.toks + 1) ∧ Q (decide (cnt P ≠ 0)) s') (N _ hm).1 hex hd hf (by omega) ⟨rfl, h⟩)
      (fun fin s' h' => by obtain ⟨r, rfl, hq⟩ := h'; exact hq) fun _ _ e => e
  unfold truthy
  first
    | refine wpAny_bind (wpAny_callSpecial?_none (name := Str.ofString "__bool__") hT noBool_set ?_)
    | refine wpAny_bind (wpAny_pure (wpAny_bind (wpAny_callSpecial?_none (name := Str.ofString "__bool__") hT noBool_set ?_)))
  first
    | refine wpAny_bind (wpAny_specialOf (name := Str.ofString "__len__") hT PySem.F.slot_set_len.lookup ?_)
    | refine wpAny_bind (wpAny_pure (wpAny_bind (wpAny_specialOf (name := Str.ofString "__len__") hT PySem.F.slot_set_len.lookup ?_)))
  first
    | exact wpAny_bind (wpAny_mono key (fun r s' h' => by obtain ⟨rfl, hq⟩ := h'; exact wpAny_pure (hne ▸ hq)) fun _ _ e => e)
    | exact wpAny_bind (wpAny_pure (wpAny_bind (wpAny_mono key (fun r s' h' => by obtain ⟨rfl, hq⟩ := h'; exact wpAny_pure (hne ▸ hq)) fun _ _ e => e)))
theorem int_of_ent {es : List (Int × Value)} (h : Ents es P) {e : Int × Value} (he : e ∈ es) : ∃ t, e.2 = .int (key e) t := (h.int e he).2
theorem set_max {Q : Value → Shared → Prop} (hh : A.handled = none) (F : Fr h₀ L s.heap m) (N : News h₀ L s.heap news) (hm : (sa, so) ∈ news) (hS : SetS true led so P) (hled : led = !w.params.followText "set-order") (hne : cnt P ≠ 0)
    (h : ∀ k t h' tk, P k = true → (∀ j, P j = true → j ≤ k) → Fr h₀ L h' m → News h₀ L h' news → Q (.int k t) { s with heap := h', toks := tk }) :
    wpAny (model prog w) A (call (.builtin "max") [.ref sa]) Q E s := by
  obtain ⟨hex, es, ep, t, hd, hE, hf, hl, hmk, hg⟩ := hS
  have hg := hg rfl
  have hsz : es.size = cnt P := by rw [← hE.count, Array.length_toList]
  have hE' := hE.perm (orderOf_perm w sa es ep)
  have hosz : (orderOf w sa es ep).size = es.size := by rw [← Array.length_toList, (orderOf_perm w sa es ep).length_eq, Array.length_toList]
  refine call_max_walk (iter_set (N _ hm).1 hex hd hf hg ?_)
  have hlt := Heap.lt_size (N _ hm).1
  let val : Nat → Int := fun i => ((orderOf w sa es ep)[i]?.map key).getD 0
  have hval : ∀ i v, (∃ e : Int × Value, (orderOf w sa es ep)[i]? = some e ∧ v = e.2) → ∃ t, v = .int (val i) t := by
    rintro i v ⟨e, he, rfl⟩
    obtain ⟨t', ht'⟩ := int_of_ent hE' (e := e) (Array.mem_toList_iff.mpr (Array.mem_of_getElem? he))
    exact ⟨t', by rw [ht']; simp only [val, he, Option.map_some, Option.getD_some]⟩
  refine ⟨_, _, _, es.size, _, _, _, rfl, Walks.set (A := A.in1) hh (Nat.ne_of_lt hlt) hd hf hg hled, ⟨Heap.get?_push_size _ rfl, Heap.get?_push_of_some _ (N _ hm).1⟩, ?_, by omega, CmpOf.ints_gt val hval, ?_⟩
  · intro b hb
    show b < (s.heap.push _).objs.size
    rw [Heap.size_push]
    rcases List.mem_cons.mp hb with rfl | hb
    · exact Nat.lt_succ_self _
    · rw [List.mem_singleton.mp hb]; exact Nat.lt_succ_of_lt hlt
  · rintro v h' tk ⟨e, he, rfl⟩ hk
    obtain ⟨hb1, hb2⟩ := argBest_gt val (es.size - 1)
    obtain ⟨t', ht'⟩ := int_of_ent hE' (e := e) (Array.mem_toList_iff.mpr (Array.mem_of_getElem? he))
    have hext : ∀ b o, s.heap.get? b = some o → h'.get? b = some o := fun b o q => hk b o (by
      simp only [List.mem_singleton]; exact Nat.ne_of_lt (Heap.lt_size q)) (Heap.get?_push_of_some _ q)
    rw [ht']
    refine h (key e) t' h' tk (hE'.at (Array.mem_toList_iff.mpr (Array.mem_of_getElem? he))) (fun j hj => ?_) (Fr.grow F hext) (fun p hp => ⟨hext _ _ (N p hp).1, (N p hp).2⟩)
    obtain ⟨ej, hej, rfl⟩ := List.mem_map.mp ((hE'.mem j).mp hj)
    obtain ⟨i, hi, hij⟩ := List.mem_iff_getElem.mp hej
    have hi' : i < es.size := by rw [← hosz, ← Array.length_toList]; exact hi
    have := hb2 i (by omega)
    have e1 : val i = key ej := by
      simp only [val]
      rw [Array.getElem?_eq_getElem (by omega)]
      simp only [Option.map_some, Option.getD_some]
      rw [← hij, Array.getElem_toList]
    have e2 : val (argBest (fun i j => decide (val i > val j)) (es.size - 1)) = key e := by
      have he' : (orderOf w sa es ep)[argBest (fun i j => decide (val i > val j)) (es.size - 1)]? = some e := he
      show ((orderOf w sa es ep)[argBest (fun i j => decide (val i > val j)) (es.size - 1)]?.map key).getD 0 = key e
      rw [he']; rfl
    rw [e1, e2] at this
    exact this
end
end Mine
end
section
open PySem PySem.W PyProof.Rows
set_option maxRecDepth 100000
set_option maxHeartbeats 8000000
namespace Mine
open_top hd for PySem.Challenge.rw_bh0020_01
end Mine
end
section
open PySem PySem.W PyProof.Rows
set_option maxRecDepth 100000
set_option maxHeartbeats 8000000
namespace Mine
abbrev Ledger := List (Addr × Obj)
abbrev bmDict (w : World) (t1 t2 : Tok) (sa : Addr) (c : Int) (tc : Tok) : Obj :=
  dictOf [⟨PyData.keyHash w.params (Str.ofString "bits"), .str (Str.ofString "bits") t1, .ref sa⟩, ⟨PyData.keyHash w.params (Str.ofString "bit_count"), .str (Str.ofString "bit_count") t2, .int c tc⟩] 2
abbrev ledOf (w : World) : Bool := !w.params.followText "set-order"
theorem drop2 {h₀ h : Heap} {L : Addr} {p q : Addr × Obj} {r : Ledger} (N : News h₀ L h (p :: q :: r)) : News h₀ L h (p :: r) :=
  fun x hx => N x (by rcases List.mem_cons.mp hx with rfl | hx; exact .head _; exact .tail _ (.tail _ hx))
local macro_rules | `(tactic| walk_at "call type:set nil nil") => `(tactic| (k_here; k_dflt (refine set_new (by k_asm) (by k_asm) ?_); intro d' o' h' F' N' l1 hs'; (try k_lt l1)))
local macro_rules | `(tactic| k_room) => `(tactic| ktr_room)
local macro_rules | `(tactic| k_mem) => `(tactic| ((fail_if_success (refine' List.Mem.tail _ ?_)); assumption))
local macro_rules | `(tactic| k_units) => `(tactic| ktr_units)
local macro_rules | `(tactic| k_enter) => `(tactic| first
  | (refine' code_def ?k1 ?k2 ?k3 ?k4 ?k5 ?kA ?kF ?kK ?k6 ?k7 ?k8 ?k9 ?kB ?_ ?c2 ?c3 ?c4 ?c5; (case kA => exact rfl); (case kF => exact rfl); (case kK => first | assumption | exact rfl); (case k1 => k_asm); (case k2 => k_asm); (case k3 => k_asm); (case k4 => k_asm); (case k5 => k_asm); (case k6 => k_is); (case k7 => k_is); (case k8 => ktr_room); (case k9 => first | exact BindsTo.of_eq rfl | exact binds_K (by k_in) rfl (by k_is) rfl rfl rfl); (case c5 => decide); (case kB => exact locs rfl); (case c2 => exact rfl); (case c3 => exact rfl); (case c4 => exact rfl); k_whole; intro g' L' h' FG' F' N' B' X' T'; (try dsimp only); (try k_lift B'); (try k_fold))
  | (refine' code_defC ?k1 ?k2 ?k3 ?k4 ?k5 ?kA ?kF ?kK ?k6 ?k7 ?k8 ?k9 ?kB ?kD ?_ ?c2 ?c3 ?c4; (case kA => exact rfl); (case kF => exact rfl); (case kK => first | assumption | exact rfl); (case k1 => k_asm); (case k2 => k_asm); (case k3 => k_asm); (case k4 => k_asm); (case k5 => k_asm); (case k6 => k_is); (case k7 => k_is); (case k8 => ktr_room); (case k9 => first | exact BindsTo.of_eq rfl | exact binds_K (by k_in) rfl (by k_is) rfl rfl rfl); (case kB => exact rfl); (case kD => decide +kernel); (case c2 => exact rfl); (case c3 => exact rfl); (case c4 => exact rfl); k_whole; intro g' L' h' tk' cells' FG' F' N' Y' B' X' T' l1; (try k_lt l1); k_cells Y'; (try simp only [List.cons_append, List.nil_append] at N'); (try dsimp only); (try k_lift B'); (try k_fold)))
theorem bm_new (w : World) (mean : ExcName → Option Value) (mg mb : Str → Option Value) (dp un : Nat) (gd : Option (List Code)) (cn : Str) (cs : Scope) (a : Addr) (ccd : Value) (cl : List (Str × Addr)) (outer : List Env) (A₀ : Around) (base h₀ : Heap) (L : Addr) (m : Str → Option Value) (news : Ledger) (s : Shared) (Q E : Value → Shared → Prop)
    (B : Below A₀ base outer h₀) (F : Fr h₀ L s.heap m) (X : (Mine.hd.heap_39 w.params).In h₀) (N : News h₀ L s.heap news) (T : Top Mine.hd.view_39 (looseW Mine.hd.view_39 [Str.ofString "struct", Str.ofString "BytesIO"]) mean mg mb h₀) (hk : cs.kind = .function) (hd : dp + 4 < recursionLimit) (hu : un + 40 < cLine)
    (hret : ∀ (x dx sa : Addr) (so : Obj) (t1 t2 t3 : Tok) (h' : Heap) (tk' : Nat), Fr h₀ L h' m → News h₀ L h' ((sa, so) :: (x, instObj 173 dx) :: (dx, bmDict w t1 t2 sa 0 t3) :: news) →
      AllLt dx news → @LT.lt Nat _ dx x → @LT.lt Nat _ x sa → SetS true (ledOf w) so (fun _ => false) → Q (.ref x) { s with heap := h', toks := tk' }) :
    wpAny (model Challenge.rw_bh0020_01.row.prog w) (ktrTop dp un gd cn cs L a ccd cl outer) (call (.ref 173) []) Q E s := by
  w_top off
  k_with_none
  have hfill : Challenge.rw_bh0020_01 = Challenge.rw_bh0020_01 ∧ (Mine.hd.heap_39 w.params).In h₀ := ⟨rfl, X⟩
  revert hfill
  k_fill
  intro hfill
  clear hfill
  k_steps
  refine hret _ _ _ _ _ _ _ _ _ (by assumption) (by assumption) (by exact allLt_of (by assumption)) (by omega) (by omega) (by assumption)
local macro_rules | `(tactic| walk_at "binaryOp BitOr ref ref") => `(tactic| (k_here; k_dflt (refine' set_or ?F ?N ?a ?b ?A ?B rfl ?n ?_; (case F => k_asm); (case N => k_asm); (case a => k_mem); (case b => k_mem); (case A => assumption); (case B => assumption); (case n => first | assumption | omega); k_whole); (try dsimp only [SetBack]); intro d' o' h' tk' F' N' l1 hs'; (try k_lt l1)))
theorem bm_or (w : World) (mean : ExcName → Option Value) (mg mb : Str → Option Value) (dp un : Nat) (gd : Option (List Code)) (cn : Str) (cs : Scope) (a : Addr) (ccd : Value) (cl : List (Str × Addr)) (outer : List Env) (A₀ : Around) (base h₀ : Heap) (L : Addr) (m : Str → Option Value) (news : Ledger) (s : Shared) (Q E : Value → Shared → Prop)
    (B : Below A₀ base outer h₀) (F : Fr h₀ L s.heap m) (X : (Mine.hd.heap_39 w.params).In h₀) (N : News h₀ L s.heap news) (T : Top Mine.hd.view_39 (looseW Mine.hd.view_39 [Str.ofString "struct", Str.ofString "BytesIO"]) mean mg mb h₀) (hk : cs.kind = .function) (hd : dp + 5 < recursionLimit) (hu : un + 60 < cLine)
    (x dx sa y dy sb : Addr) (so sp : Obj) (t1 t2 t3 u1 u2 u3 : Tok) (c c' : Int) (g g' : Bool) (P P' : Int → Bool)
    (hx : (x, instObj 173 dx) ∈ news) (hdx : (dx, bmDict w t1 t2 sa c t3) ∈ news) (hsa : (sa, so) ∈ news) (hy : (y, instObj 173 dy) ∈ news) (hdy : (dy, bmDict w u1 u2 sb c' u3) ∈ news) (hsb : (sb, sp) ∈ news)
    (SA : SetS g (ledOf w) so P) (SB : SetS g' (ledOf w) sp P') (hne : sa ≠ sb)
    (hret : ∀ (x dx sa : Addr) (so : Obj) (c : Int) (t1 t2 t3 : Tok) (h' : Heap) (tk' : Nat), Fr h₀ L h' m → News h₀ L h' ((sa, so) :: (x, instObj 173 dx) :: (dx, bmDict w t1 t2 sa c t3) :: news) →
      AllLt dx news → @LT.lt Nat _ dx x → @LT.lt Nat _ x sa → SetS false (ledOf w) so (fun j => P j || P' j) → Q (.ref x) { s with heap := h', toks := tk' }) :
    wpAny (model Challenge.rw_bh0020_01.row.prog w) (ktrTop dp un gd cn cs L a ccd cl outer) (binaryOp .BitOr (.ref x) (.ref y)) Q E s := by
  w_top off
  k_with_none
  have hfill : Challenge.rw_bh0020_01 = Challenge.rw_bh0020_01 ∧ (Mine.hd.heap_39 w.params).In h₀ := ⟨rfl, X⟩
  revert hfill
  k_fill
  intro hfill
  clear hfill
  k_steps
  refine hret _ _ _ _ _ _ _ _ _ _ (by assumption) (drop2 (by assumption)) (by exact allLt_of (by assumption)) (by omega) (by omega) (by assumption)
local macro_rules | `(tactic| walk_at "binaryOp BitAnd ref ref") => `(tactic| (k_here; k_dflt (refine' set_and ?F ?N ?a ?b ?A ?B rfl ?n ?_; (case F => k_asm); (case N => k_asm); (case a => k_mem); (case b => k_mem); (case A => assumption); (case B => assumption); (case n => first | assumption | omega); k_whole); (try dsimp only [SetBack]); intro d' o' h' tk' F' N' l1 hs'; (try k_lt l1)))
theorem bm_and (w : World) (mean : ExcName → Option Value) (mg mb : Str → Option Value) (dp un : Nat) (gd : Option (List Code)) (cn : Str) (cs : Scope) (a : Addr) (ccd : Value) (cl : List (Str × Addr)) (outer : List Env) (A₀ : Around) (base h₀ : Heap) (L : Addr) (m : Str → Option Value) (news : Ledger) (s : Shared) (Q E : Value → Shared → Prop)
    (B : Below A₀ base outer h₀) (F : Fr h₀ L s.heap m) (X : (Mine.hd.heap_39 w.params).In h₀) (N : News h₀ L s.heap news) (T : Top Mine.hd.view_39 (looseW Mine.hd.view_39 [Str.ofString "struct", Str.ofString "BytesIO"]) mean mg mb h₀) (hk : cs.kind = .function) (hd : dp + 5 < recursionLimit) (hu : un + 60 < cLine)
    (x dx sa y dy sb : Addr) (so sp : Obj) (t1 t2 t3 u1 u2 u3 : Tok) (c c' : Int) (g g' : Bool) (P P' : Int → Bool)
    (hx : (x, instObj 173 dx) ∈ news) (hdx : (dx, bmDict w t1 t2 sa c t3) ∈ news) (hsa : (sa, so) ∈ news) (hy : (y, instObj 173 dy) ∈ news) (hdy : (dy, bmDict w u1 u2 sb c' u3) ∈ news) (hsb : (sb, sp) ∈ news)
    (SA : SetS g (ledOf w) so P) (SB : SetS g' (ledOf w) sp P') (hne : sa ≠ sb)
    (hret : ∀ (x dx sa : Addr) (so : Obj) (c : Int) (t1 t2 t3 : Tok) (h' : Heap) (tk' : Nat), Fr h₀ L h' m → News h₀ L h' ((sa, so) :: (x, instObj 173 dx) :: (dx, bmDict w t1 t2 sa c t3) :: news) →
      AllLt dx news → @LT.lt Nat _ dx x → @LT.lt Nat _ x sa → SetS false (ledOf w) so (fun j => P j && P' j) → Q (.ref x) { s with heap := h', toks := tk' }) :
    wpAny (model Challenge.rw_bh0020_01.row.prog w) (ktrTop dp un gd cn cs L a ccd cl outer) (binaryOp .BitAnd (.ref x) (.ref y)) Q E s := by
  w_top off
  k_with_none
  have hfill : Challenge.rw_bh0020_01 = Challenge.rw_bh0020_01 ∧ (Mine.hd.heap_39 w.params).In h₀ := ⟨rfl, X⟩
  revert hfill
  k_fill
  intro hfill
  clear hfill
  k_steps
  refine hret _ _ _ _ _ _ _ _ _ _ (by assumption) (drop2 (by assumption)) (by exact allLt_of (by assumption)) (by omega) (by omega) (by assumption)
local macro_rules | `(tactic| walk_at "binaryOp BitXor") => `(tactic| (k_here; (with_reducible show wpAny _ _ (binaryOp _ (Value.ref _) (Value.ref _)) _ _ _); k_dflt (refine' binop_K ?k1 ?k2 ?k3 ?k4 ?k5 ?k6 ?k7 ?_; (case k1 => k_asm); (case k2 => k_asm); (case k3 => k_inst); (case k4 => k_typeOf); (case k5 => k_is); (case k6 => k_is); (case k7 => k_is); k_whole)))
local macro_rules | `(tactic| walk_at "binaryOp BitXor ref ref") => `(tactic| (k_here; k_dflt (refine' set_xor ?F ?N ?a ?b ?A ?B rfl ?_; (case F => k_asm); (case N => k_asm); (case a => k_mem); (case b => k_mem); (case A => assumption); (case B => assumption); k_whole); (try dsimp only [SetBack]); intro d' o' h' tk' F' N' l1 hs'; (try k_lt l1)))
theorem bm_xor (w : World) (mean : ExcName → Option Value) (mg mb : Str → Option Value) (dp un : Nat) (gd : Option (List Code)) (cn : Str) (cs : Scope) (a : Addr) (ccd : Value) (cl : List (Str × Addr)) (outer : List Env) (A₀ : Around) (base h₀ : Heap) (L : Addr) (m : Str → Option Value) (news : Ledger) (s : Shared) (Q E : Value → Shared → Prop)
    (B : Below A₀ base outer h₀) (F : Fr h₀ L s.heap m) (X : (Mine.hd.heap_39 w.params).In h₀) (N : News h₀ L s.heap news) (T : Top Mine.hd.view_39 (looseW Mine.hd.view_39 [Str.ofString "struct", Str.ofString "BytesIO"]) mean mg mb h₀) (hk : cs.kind = .function) (hd : dp + 5 < recursionLimit) (hu : un + 60 < cLine)
    (x dx sa y dy sb : Addr) (so sp : Obj) (t1 t2 t3 u1 u2 u3 : Tok) (c c' : Int) (g g' : Bool) (P P' : Int → Bool)
    (hx : (x, instObj 173 dx) ∈ news) (hdx : (dx, bmDict w t1 t2 sa c t3) ∈ news) (hsa : (sa, so) ∈ news) (hy : (y, instObj 173 dy) ∈ news) (hdy : (dy, bmDict w u1 u2 sb c' u3) ∈ news) (hsb : (sb, sp) ∈ news)
    (SA : SetS g (ledOf w) so P) (SB : SetS g' (ledOf w) sp P')
    (hret : ∀ (x dx sa : Addr) (so : Obj) (c : Int) (t1 t2 t3 : Tok) (h' : Heap) (tk' : Nat), Fr h₀ L h' m → News h₀ L h' ((sa, so) :: (x, instObj 173 dx) :: (dx, bmDict w t1 t2 sa c t3) :: news) →
      AllLt dx news → @LT.lt Nat _ dx x → @LT.lt Nat _ x sa → SetS false (ledOf w) so (fun j => P j ^^ P' j) → Q (.ref x) { s with heap := h', toks := tk' }) :
    wpAny (model Challenge.rw_bh0020_01.row.prog w) (ktrTop dp un gd cn cs L a ccd cl outer) (binaryOp .BitXor (.ref x) (.ref y)) Q E s := by
  w_top off
  k_with_none
  have hfill : Challenge.rw_bh0020_01 = Challenge.rw_bh0020_01 ∧ (Mine.hd.heap_39 w.params).In h₀ := ⟨rfl, X⟩
  revert hfill
  k_fill
  intro hfill
  clear hfill
  k_steps
  refine hret _ _ _ _ _ _ _ _ _ _ (by assumption) (drop2 (by assumption)) (by exact allLt_of (by assumption)) (by omega) (by omega) (by assumption)
local macro_rules | `(tactic| walk_at "binaryOp Sub ref ref") => `(tactic| (k_here; k_dflt (refine' set_sub ?F ?N ?a ?b ?A ?B rfl ?_; (case F => k_asm); (case N => k_asm); (case a => k_mem); (case b => k_mem); (case A => assumption); (case B => assumption); k_whole); (try dsimp only [SetBack]); intro d' o' h' tk' F' N' l1 hs'; (try k_lt l1)))
theorem bm_sub (w : World) (mean : ExcName → Option Value) (mg mb : Str → Option Value) (dp un : Nat) (gd : Option (List Code)) (cn : Str) (cs : Scope) (a : Addr) (ccd : Value) (cl : List (Str × Addr)) (outer : List Env) (A₀ : Around) (base h₀ : Heap) (L : Addr) (m : Str → Option Value) (news : Ledger) (s : Shared) (Q E : Value → Shared → Prop)
    (B : Below A₀ base outer h₀) (F : Fr h₀ L s.heap m) (X : (Mine.hd.heap_39 w.params).In h₀) (N : News h₀ L s.heap news) (T : Top Mine.hd.view_39 (looseW Mine.hd.view_39 [Str.ofString "struct", Str.ofString "BytesIO"]) mean mg mb h₀) (hk : cs.kind = .function) (hd : dp + 5 < recursionLimit) (hu : un + 60 < cLine)
    (x dx sa y dy sb : Addr) (so sp : Obj) (t1 t2 t3 u1 u2 u3 : Tok) (c c' : Int) (g g' : Bool) (P P' : Int → Bool)
    (hx : (x, instObj 173 dx) ∈ news) (hdx : (dx, bmDict w t1 t2 sa c t3) ∈ news) (hsa : (sa, so) ∈ news) (hy : (y, instObj 173 dy) ∈ news) (hdy : (dy, bmDict w u1 u2 sb c' u3) ∈ news) (hsb : (sb, sp) ∈ news)
    (SA : SetS g (ledOf w) so P) (SB : SetS g' (ledOf w) sp P')
    (hret : ∀ (x dx sa : Addr) (so : Obj) (c : Int) (t1 t2 t3 : Tok) (h' : Heap) (tk' : Nat), Fr h₀ L h' m → News h₀ L h' ((sa, so) :: (x, instObj 173 dx) :: (dx, bmDict w t1 t2 sa c t3) :: news) →
      AllLt dx news → @LT.lt Nat _ dx x → @LT.lt Nat _ x sa → SetS false (ledOf w) so (fun j => P j && !P' j) → Q (.ref x) { s with heap := h', toks := tk' }) :
    wpAny (model Challenge.rw_bh0020_01.row.prog w) (ktrTop dp un gd cn cs L a ccd cl outer) (binaryOp .Sub (.ref x) (.ref y)) Q E s := by
  w_top off
  k_with_none
  have hfill : Challenge.rw_bh0020_01 = Challenge.rw_bh0020_01 ∧ (Mine.hd.heap_39 w.params).In h₀ := ⟨rfl, X⟩
  revert hfill
  k_fill
  intro hfill
  clear hfill
  k_steps
  refine hret _ _ _ _ _ _ _ _ _ _ (by assumption) (drop2 (by assumption)) (by exact allLt_of (by assumption)) (by omega) (by omega) (by assumption)
local macro_rules | `(tactic| walk_at "call builtin:len") => `(tactic| (k_here; (with_reducible show wpAny _ _ (call (Value.builtin "len") [Value.ref _]) _ _ _); k_dflt (refine' set_len ?N ?a ?A ?_; (case N => k_asm); (case a => k_mem); (case A => assumption); k_whole)))
theorem bm_len (w : World) (mean : ExcName → Option Value) (mg mb : Str → Option Value) (dp un : Nat) (gd : Option (List Code)) (cn : Str) (cs : Scope) (a : Addr) (ccd : Value) (cl : List (Str × Addr)) (outer : List Env) (A₀ : Around) (base h₀ : Heap) (L : Addr) (m : Str → Option Value) (news : Ledger) (s : Shared) (Q E : Value → Shared → Prop)
    (B : Below A₀ base outer h₀) (F : Fr h₀ L s.heap m) (X : (Mine.hd.heap_39 w.params).In h₀) (N : News h₀ L s.heap news) (T : Top Mine.hd.view_39 (looseW Mine.hd.view_39 [Str.ofString "struct", Str.ofString "BytesIO"]) mean mg mb h₀) (hk : cs.kind = .function) (hd : dp + 5 < recursionLimit) (hu : un + 60 < cLine)
    (x dx sa : Addr) (so : Obj) (t1 t2 t3 : Tok) (c : Int) (g : Bool) (P : Int → Bool)
    (hx : (x, instObj 173 dx) ∈ news) (hdx : (dx, bmDict w t1 t2 sa c t3) ∈ news) (hsa : (sa, so) ∈ news) (SA : SetS g (ledOf w) so P)
    (hret : ∀ (t : Tok) (h' : Heap) (tk' : Nat), Fr h₀ L h' m → News h₀ L h' news → Q (.int (cnt P : Nat) t) { s with heap := h', toks := tk' }) :
    wpAny (model Challenge.rw_bh0020_01.row.prog w) (ktrTop dp un gd cn cs L a ccd cl outer) (call (.builtin "len") [.ref x]) Q E s := by
  w_top off
  k_with_none
  have hfill : Challenge.rw_bh0020_01 = Challenge.rw_bh0020_01 ∧ (Mine.hd.heap_39 w.params).In h₀ := ⟨rfl, X⟩
  revert hfill
  k_fill
  intro hfill
  clear hfill
  k_steps
  all_goals (have hc := cnt_le P)
  all_goals first | omega | exact hret _ _ _ (by assumption) (by assumption)
end Mine
end
section
open PySem PySem.W PyProof.Rows
set_option maxRecDepth 100000
set_option maxHeartbeats 8000000
namespace Mine
local macro_rules | `(tactic| walk_at "pad 0") => `(tactic| skip)
local macro_rules | `(tactic| walk_at "pad 1") => `(tactic| skip)
local macro_rules | `(tactic| walk_at "pad 2") => `(tactic| skip)
local macro_rules | `(tactic| walk_at "pad 3") => `(tactic| skip)
local macro_rules | `(tactic| walk_at "pad 4") => `(tactic| skip)
local macro_rules | `(tactic| walk_at "call type:set nil nil") => `(tactic| (k_here; k_dflt (refine set_new (by k_asm) (by k_asm) ?_); intro d' o' h' F' N' l1 hs'; (try k_lt l1)))
local macro_rules | `(tactic| k_room) => `(tactic| ktr_room)
local macro_rules | `(tactic| k_mem) => `(tactic| ((fail_if_success (refine' List.Mem.tail _ ?_)); assumption))
local macro_rules | `(tactic| k_units) => `(tactic| ktr_units)
local macro_rules | `(tactic| k_enter) => `(tactic| first
  | (refine' code_def ?k1 ?k2 ?k3 ?k4 ?k5 ?kA ?kF ?kK ?k6 ?k7 ?k8 ?k9 ?kB ?_ ?c2 ?c3 ?c4 ?c5; (case kA => exact rfl); (case kF => exact rfl); (case kK => first | assumption | exact rfl); (case k1 => k_asm); (case k2 => k_asm); (case k3 => k_asm); (case k4 => k_asm); (case k5 => k_asm); (case k6 => k_is); (case k7 => k_is); (case k8 => ktr_room); (case k9 => first | exact BindsTo.of_eq rfl | exact binds_K (by k_in) rfl (by k_is) rfl rfl rfl); (case c5 => decide); (case kB => exact locs rfl); (case c2 => exact rfl); (case c3 => exact rfl); (case c4 => exact rfl); k_whole; intro g' L' h' FG' F' N' B' X' T'; (try dsimp only); (try k_lift B'); (try k_fold))
  | (refine' code_defC ?k1 ?k2 ?k3 ?k4 ?k5 ?kA ?kF ?kK ?k6 ?k7 ?k8 ?k9 ?kB ?kD ?_ ?c2 ?c3 ?c4; (case kA => exact rfl); (case kF => exact rfl); (case kK => first | assumption | exact rfl); (case k1 => k_asm); (case k2 => k_asm); (case k3 => k_asm); (case k4 => k_asm); (case k5 => k_asm); (case k6 => k_is); (case k7 => k_is); (case k8 => ktr_room); (case k9 => first | exact BindsTo.of_eq rfl | exact binds_K (by k_in) rfl (by k_is) rfl rfl rfl); (case kB => exact rfl); (case kD => decide +kernel); (case c2 => exact rfl); (case c3 => exact rfl); (case c4 => exact rfl); k_whole; intro g' L' h' tk' cells' FG' F' N' Y' B' X' T' l1; (try k_lt l1); k_cells Y'; (try simp only [List.cons_append, List.nil_append] at N'); (try dsimp only); (try k_lift B'); (try k_fold)))
local macro_rules | `(tactic| walk_at "compareOp In int ref") => `(tactic| (k_here; k_dflt (refine' set_in ?N ?a ?A ?_; (case N => k_asm); (case a => k_mem); (case A => assumption); k_whole)))
theorem foldl_id : ∀ (ks : List Int) (l : List Int), List.foldl (fun l' (_ : Int) => l') l ks = l
  | [], _ => rfl
  | _ :: r, l => by rw [List.foldl_cons]; exact foldl_id r l
local macro_rules | `(tactic| walk_at "CompEnd") => `(tactic| (refine LCg.CompEnd.intro (by assumption) (by assumption) _ (fun p hp => hp) (by first | assumption | (simp only [LCg.Off3, and_true]; assumption)) (by first | exact trivial | lcg_src) ?_))
theorem bm_same (w : World) (mean : ExcName → Option Value) (mg mb : Str → Option Value) (dp un : Nat) (gd : Option (List Code)) (cn : Str) (cs : Scope) (a : Addr) (ccd : Value) (cl : List (Str × Addr)) (outer : List Env) (A₀ : Around) (base h₀ : Heap) (L : Addr) (m : Str → Option Value) (news : Ledger) (s : Shared) (Q E : Value → Shared → Prop)
    (B : Below A₀ base outer h₀) (F : Fr h₀ L s.heap m) (X : (Mine.hd.heap_39 w.params).In h₀) (N : News h₀ L s.heap news) (T : Top Mine.hd.view_39 (looseW Mine.hd.view_39 [Str.ofString "struct", Str.ofString "BytesIO"]) mean mg mb h₀) (hk : cs.kind = .function) (hd : dp + 8 < recursionLimit) (hu : un + 100 < cLine)
    (x dx sa y dy sb : Addr) (so sp : Obj) (t1 t2 t3 u1 u2 u3 : Tok) (c c' : Int) (g g' : Bool) (P P' : Int → Bool) (limit : Int) (lt : Tok)
    (hx : (x, instObj 173 dx) ∈ news) (hdx : (dx, bmDict w t1 t2 sa c t3) ∈ news) (hsa : (sa, so) ∈ news) (hy : (y, instObj 173 dy) ∈ news) (hdy : (dy, bmDict w u1 u2 sb c' u3) ∈ news) (hsb : (sb, sp) ∈ news)
    (SA : SetS g (ledOf w) so P) (SB : SetS g' (ledOf w) sp P') (hl0 : 0 ≤ limit) (hl1 : limit ≤ 150) (heq : ∀ k, P k = P' k)
    (hret : ∀ (h' : Heap) (tk' : Nat), Fr h₀ L h' m → News h₀ L h' news → Q (.bool true) { s with heap := h', toks := tk' }) :
    wpAny (model Challenge.rw_bh0020_01.row.prog w) (ktrTop dp un gd cn cs L a ccd cl outer) (call (.ref 196) [.ref x, .ref y, .int limit lt]) Q E s := by
  obtain rfl : P = P' := funext heq
  w_top off
  k_with_none
  have hfill : Challenge.rw_bh0020_01 = Challenge.rw_bh0020_01 ∧ (Mine.hd.heap_39 w.params).In h₀ := ⟨rfl, X⟩
  revert hfill
  k_fill
  intro hfill
  clear hfill
  k_steps
  all_goals simp only [not_true_eq_false, bne_self_eq_false, if_false, if_true, foldl_id, decide_true]
  all_goals exact hret _ _ (by assumption) (cb_drop (by assumption) (fun p hp => .tail _ (.tail _ (.tail _ (.tail _ hp)))))
theorem gcd_turn {a b l r : Int} (hl : 0 < l) (hr : 0 < r) (hr2 : r < 20000) (h : Int.gcd l r = Int.gcd a b) : 0 < r ∧ r < 20000 ∧ 0 ≤ l.fmod r ∧ l.fmod r < 20000 ∧ Int.gcd r (l.fmod r) = Int.gcd a b := by
  have h1 := Int.fmod_eq_emod_of_nonneg l (Int.le_of_lt hr)
  have h2 := Int.emod_nonneg l (Int.ne_of_gt hr)
  have h3 := Int.emod_lt_of_pos l hr
  refine ⟨hr, hr2, by omega, by omega, ?_⟩
  rw [← h, h1]
  obtain ⟨l', rfl⟩ := Int.eq_ofNat_of_zero_le (Int.le_of_lt hl)
  obtain ⟨r', rfl⟩ := Int.eq_ofNat_of_zero_le (Int.le_of_lt hr)
  rw [← Int.natCast_emod, Int.gcd_natCast_natCast, Int.gcd_natCast_natCast, Nat.gcd_comm l' r', Nat.gcd_rec r' l', Nat.gcd_comm]
theorem mod_less {l r : Int} (hr : 0 < r) : (l.fmod r).toNat < r.toNat := by
  have h1 := Int.fmod_eq_emod_of_nonneg l (Int.le_of_lt hr)
  have h2 := Int.emod_nonneg l (Int.ne_of_gt hr)
  have h3 := Int.emod_lt_of_pos l hr
  omega
theorem mult_value {a b l : Int} (ha : 0 < a) (hb : 0 < b) (h : Int.gcd l 0 = Int.gcd a b) (hl : 0 < l) : (a * b).fdiv l = ((Int.lcm a b : Nat) : Int) := by
  obtain ⟨a', rfl⟩ := Int.eq_ofNat_of_zero_le (Int.le_of_lt ha)
  obtain ⟨b', rfl⟩ := Int.eq_ofNat_of_zero_le (Int.le_of_lt hb)
  obtain ⟨l', rfl⟩ := Int.eq_ofNat_of_zero_le (Int.le_of_lt hl)
  have e : l' = Nat.gcd a' b' := by simpa using h
  subst e
  rw [Int.fdiv_eq_ediv_of_nonneg _ (by omega)]
  rfl
theorem mult_value' {a b l r : Int} (ha : 0 < a) (hb : 0 < b) (h : Int.gcd l r = Int.gcd a b) (hl : 0 < l) (h0 : 0 ≤ r) (h1 : ¬ 0 < r) : (a * b).fdiv l = ((Int.lcm a b : Nat) : Int) := by
  have e : r = 0 := by omega
  subst e
  exact mult_value ha hb h hl
local macro_rules | `(tactic| walk_at "KswEnd") => `(tactic| ((rename News _ _ _ _ => nE'); (try simp only [List.push_toArray] at nE'); (refine ksw_end ⟨_, _, _, _⟩ (by assumption) nE' (fun p hp => List.Mem.tail _ hp) (by kst_facts) (by kst_all) (by ksw_same) (gcd_turn (by assumption) (by assumption) (by assumption) (by assumption)) (mod_less (by assumption)))))
theorem bm_multiple (w : World) (mean : ExcName → Option Value) (mg mb : Str → Option Value) (dp un : Nat) (gd : Option (List Code)) (cn : Str) (cs : Scope) (a : Addr) (ccd : Value) (cl : List (Str × Addr)) (outer : List Env) (A₀ : Around) (base h₀ : Heap) (L : Addr) (m : Str → Option Value) (news : Ledger) (s : Shared) (Q E : Value → Shared → Prop)
    (B : Below A₀ base outer h₀) (F : Fr h₀ L s.heap m) (X : (Mine.hd.heap_39 w.params).In h₀) (N : News h₀ L s.heap news) (T : Top Mine.hd.view_39 (looseW Mine.hd.view_39 [Str.ofString "struct", Str.ofString "BytesIO"]) mean mg mb h₀) (hk : cs.kind = .function) (hd : dp + 8 < recursionLimit) (hu : un + 100 < cLine)
    (l0 : Addr) (vs : List Value) (ns : List Int) (hl : base.IsList l0 vs.toArray) (hi : IntsAre vs ns)
    (a' b' : Int) (ta tb : Tok) (ha0 : 0 < a') (ha1 : a' < 20000) (hb0 : 0 < b') (hb1 : b' < 200)
    (hret : ∀ (t : Tok) (h' : Heap) (tk' : Nat), Fr h₀ L h' m → News h₀ L h' news → Q (.int ((Int.lcm a' b' : Nat) : Int) t) { s with heap := h', toks := tk' }) :
    wpAny (model Challenge.rw_bh0020_01.row.prog w) (ktrTop dp un gd cn cs L a ccd cl outer) (call (.ref 191) [.int a' ta, .int b' tb]) Q E s := by
  w_top off
  k_with_none
  have hfill : Challenge.rw_bh0020_01 = Challenge.rw_bh0020_01 ∧ (Mine.hd.heap_39 w.params).In h₀ := ⟨rfl, X⟩
  revert hfill
  k_fill
  intro hfill
  clear hfill
  k_with "exec While Compare cons nil" => k_while_given ["one", "other"] (fun one other script left rest => 0 < left ∧ left < 20000 ∧ 0 ≤ rest ∧ rest < 20000 ∧ Int.gcd left rest = Int.gcd one other) (fun one other script left rest => rest.toNat) "left" "rest"
  k_steps
  rw [mult_value' ha0 hb0 (by assumption) (by assumption) (by assumption) (by omega)]
  exact hret _ _ _ (by assumption) (cb_drop (by assumption) (fun p hp => .tail _ hp))
end Mine
end
section
open PySem PySem.W PyProof.Rows
set_option maxRecDepth 100000
set_option maxHeartbeats 8000000
namespace Mine
local macro_rules | `(tactic| walk_at "pad 0") => `(tactic| skip)
local macro_rules | `(tactic| walk_at "pad 1") => `(tactic| skip)
local macro_rules | `(tactic| walk_at "pad 2") => `(tactic| skip)
local macro_rules | `(tactic| walk_at "pad 3") => `(tactic| skip)
local macro_rules | `(tactic| walk_at "pad 4") => `(tactic| skip)
local macro_rules | `(tactic| walk_at "pad 5") => `(tactic| skip)
local macro_rules | `(tactic| walk_at "pad 6") => `(tactic| skip)
local macro_rules | `(tactic| walk_at "pad 7") => `(tactic| skip)
local macro_rules | `(tactic| walk_at "pad 8") => `(tactic| skip)
local macro_rules | `(tactic| walk_at "call type:set nil nil") => `(tactic| (k_here; k_dflt (refine set_new (by k_asm) (by k_asm) ?_); intro d' o' h' F' N' l1 hs'; (try k_lt l1)))
local macro_rules | `(tactic| k_room) => `(tactic| ktr_room)
local macro_rules | `(tactic| k_mem) => `(tactic| ((fail_if_success (refine' List.Mem.tail _ ?_)); assumption))
local macro_rules | `(tactic| k_units) => `(tactic| ktr_units)
local macro_rules | `(tactic| k_enter) => `(tactic| first
  | (refine' code_def ?k1 ?k2 ?k3 ?k4 ?k5 ?kA ?kF ?kK ?k6 ?k7 ?k8 ?k9 ?kB ?_ ?c2 ?c3 ?c4 ?c5; (case kA => exact rfl); (case kF => exact rfl); (case kK => first | assumption | exact rfl); (case k1 => k_asm); (case k2 => k_asm); (case k3 => k_asm); (case k4 => k_asm); (case k5 => k_asm); (case k6 => k_is); (case k7 => k_is); (case k8 => ktr_room); (case k9 => first | exact BindsTo.of_eq rfl | exact binds_K (by k_in) rfl (by k_is) rfl rfl rfl); (case c5 => decide); (case kB => exact locs rfl); (case c2 => exact rfl); (case c3 => exact rfl); (case c4 => exact rfl); k_whole; intro g' L' h' FG' F' N' B' X' T'; (try dsimp only); (try k_lift B'); (try k_fold))
  | (refine' code_defC ?k1 ?k2 ?k3 ?k4 ?k5 ?kA ?kF ?kK ?k6 ?k7 ?k8 ?k9 ?kB ?kD ?_ ?c2 ?c3 ?c4; (case kA => exact rfl); (case kF => exact rfl); (case kK => first | assumption | exact rfl); (case k1 => k_asm); (case k2 => k_asm); (case k3 => k_asm); (case k4 => k_asm); (case k5 => k_asm); (case k6 => k_is); (case k7 => k_is); (case k8 => ktr_room); (case k9 => first | exact BindsTo.of_eq rfl | exact binds_K (by k_in) rfl (by k_is) rfl rfl rfl); (case kB => exact rfl); (case kD => decide +kernel); (case c2 => exact rfl); (case c3 => exact rfl); (case c4 => exact rfl); k_whole; intro g' L' h' tk' cells' FG' F' N' Y' B' X' T' l1; (try k_lt l1); k_cells Y'; (try simp only [List.cons_append, List.nil_append] at N'); (try dsimp only); (try k_lift B'); (try k_fold)))
def Stop (P : Prop) : Prop := P
theorem Stop.out {P : Prop} (h : Stop P) : P := h
theorem Stop.mk {P : Prop} (h : P) : Stop P := h
def lawAt (ns : List Int) (k other : Int) : Int := (ns[k.toNat]?).getD other
theorem lawAt_in {ns : List Int} {k other d : Int} (h0 : 0 ≤ k) (h : k < (ns.length : Int)) : ns.getD k.toNat d = lawAt ns k other := by
  unfold lawAt
  rw [List.getElem?_eq_getElem (by omega), List.getD_eq_getElem?_getD, List.getElem?_eq_getElem (by omega)]
  rfl
theorem lawAt_out {ns : List Int} {k other : Int} (h0 : 0 ≤ k) (h : ¬ k < (ns.length : Int)) : other = lawAt ns k other := by
  unfold lawAt
  rw [List.getElem?_eq_none (by omega)]
  rfl
theorem bm_at (w : World) (mean : ExcName → Option Value) (mg mb : Str → Option Value) (dp un : Nat) (gd : Option (List Code)) (cn : Str) (cs : Scope) (a : Addr) (ccd : Value) (cl : List (Str × Addr)) (outer : List Env) (A₀ : Around) (base h₀ : Heap) (L : Addr) (m : Str → Option Value) (news : Ledger) (s : Shared) (Q E : Value → Shared → Prop)
    (B : Below A₀ base outer h₀) (F : Fr h₀ L s.heap m) (X : (Mine.hd.heap_39 w.params).In h₀) (N : News h₀ L s.heap news) (T : Top Mine.hd.view_39 (looseW Mine.hd.view_39 [Str.ofString "struct", Str.ofString "BytesIO"]) mean mg mb h₀) (hk : cs.kind = .function) (hd : dp + 8 < recursionLimit) (hu : un + 100 < cLine)
    (l0 : Addr) (vs : List Value) (ns : List Int) (hl : base.IsList l0 vs.toArray) (hi : IntsAre vs ns) (hns : ns.length ≤ 63)
    (k other : Int) (ta tb : Tok) (hk0 : 0 ≤ k) (hk1 : k < 100)
    (hret : ∀ (t : Tok) (h' : Heap) (tk' : Nat), Fr h₀ L h' m → News h₀ L h' news → Q (.int (lawAt ns k other) t) { s with heap := h', toks := tk' }) :
    wpAny (model Challenge.rw_bh0020_01.row.prog w) (ktrTop dp un gd cn cs L a ccd cl outer) (call (.ref 184) [.ref l0, .int k ta, .int other tb]) Q E s := by
  w_top off
  k_with_none
  have hfill : Challenge.rw_bh0020_01 = Challenge.rw_bh0020_01 ∧ (Mine.hd.heap_39 w.params).In h₀ := ⟨rfl, X⟩
  revert hfill
  k_fill
  intro hfill
  clear hfill
  k_steps
  · rw [lawAt_in (other := other) hk0 (by assumption)]
    exact hret _ _ _ (by assumption) (by assumption)
  · have e := lawAt_out (ns := ns) (other := other) hk0 (by assumption)
    rw [e]
    exact hret _ _ _ (by assumption) (by assumption)
end Mine
end
section
open PySem PySem.W PyProof.Rows
set_option maxRecDepth 100000
namespace Mine
def mulP (n limit : Int) : Int → Bool := fun j => decide (0 < j ∧ j ≤ limit ∧ j % n = 0)
def stepKs (a c : Int) (n : Nat) : List Int := (List.range n).map fun (i : Nat) => a + (i : Int) * c
theorem foldl_or (ks : List Int) : ∀ P : Int → Bool, ks.foldl (fun P k => fun j => P j || decide (j = k)) P = fun j => P j || ks.any fun k => decide (j = k) := by
  induction ks with
  | nil => intro P; funext j; simp
  | cons k r ih => intro P; rw [List.foldl_cons, ih]; funext j; rw [List.any_cons, Bool.or_assoc]
theorem mul_any {n limit : Int} {m : Nat} (h0 : 0 < n) (h1 : 0 < limit) (hm : Builtin.Range.rangeSize n (limit + 1) n = (m : Int)) : ∀ j, mulP n limit j = (false || (stepKs n n m).any fun k => decide (j = k)) := by
  intro j
  have hm' : ∀ i : Int, 0 ≤ i → (i < m ↔ n + i * n ≤ limit) := by
    intro i hi
    unfold Builtin.Range.rangeSize at hm
    rw [if_pos h0] at hm
    split at hm
    · rename_i hlt
      have e : limit + 1 - n - 1 = limit - n := by omega
      rw [e] at hm
      have : i < (m : Int) ↔ i ≤ (limit - n) / n := by omega
      rw [this, Int.le_ediv_iff_mul_le h0]
      omega
    · rename_i hlt
      have : 0 ≤ i * n := Int.mul_nonneg hi (Int.le_of_lt h0)
      constructor
      · intro h; omega
      · intro h; omega
  rw [Bool.false_or, Bool.eq_iff_iff, List.any_eq_true]
  unfold mulP stepKs
  rw [decide_eq_true_eq]
  constructor
  · rintro ⟨h2, h3, h4⟩
    have h5 : n * (j / n) = j := Int.mul_ediv_cancel' (Int.dvd_of_emod_eq_zero h4)
    have h6 : 1 ≤ j / n := by
      apply Classical.byContradiction
      intro hc
      have : j / n ≤ 0 := by omega
      have := Int.mul_le_mul_of_nonneg_left this (Int.le_of_lt h0)
      rw [Int.mul_zero, h5] at this
      omega
    have h7 : n + (j / n - 1) * n = j := by rw [Int.sub_mul, Int.one_mul, Int.mul_comm (j / n) n, h5]; omega
    refine ⟨j, List.mem_map.mpr ⟨(j / n - 1).toNat, List.mem_range.mpr ?_, ?_⟩, decide_eq_true rfl⟩
    · have := (hm' (j / n - 1) (by omega)).mpr (by omega)
      omega
    · rw [Int.toNat_of_nonneg (by omega)]; exact h7
  · rintro ⟨k, hk, hjk⟩
    obtain ⟨i, hi, rfl⟩ := List.mem_map.mp hk
    rw [decide_eq_true_eq] at hjk
    subst hjk
    have hi' := (hm' (i : Int) (by omega)).mp (by have := List.mem_range.mp hi; omega)
    have hpos : 0 ≤ (i : Int) * n := Int.mul_nonneg (by omega) (Int.le_of_lt h0)
    refine ⟨by omega, hi', ?_⟩
    rw [Int.add_mul_emod_self_right, Int.emod_self]
section
variable {prog : Program} {w : World} {A : Around} {E : Value → Shared → Prop} {s : Shared} {env : Env} {h₀ : Heap} {x : Str} {body : List Stmt} {Q : Flow → Shared → Prop}
def AddEnd (w : World) (h₀ : Heap) (L : Addr) (m : Str → Option Value) (sa bx dx : Addr) (t1 t2 : Tok) (rest : Ledger) (P : Int → Bool) (s₁ : Shared) (f : Flow) (s₂ : Shared) : Prop :=
  f = .next ∧ ∃ so c t3 h' tk', s₂ = { s₁ with heap := h', toks := tk' } ∧ Fr h₀ L h' m ∧ News h₀ L h' ((sa, so) :: (bx, instObj 173 dx) :: (dx, bmDict w t1 t2 sa c t3) :: rest) ∧ SetS true (ledOf w) so P
theorem AddEnd.intro {L : Addr} {m : Str → Option Value} {sa bx dx : Addr} {t1 t2 : Tok} {rest : Ledger} {P : Int → Bool} {s₁ : Shared} {so : Obj} {c : Int} {t3 : Tok} {h' : Heap} {tk' : Nat}
    (F : Fr h₀ L h' m) (N : News h₀ L h' ((sa, so) :: (bx, instObj 173 dx) :: (dx, bmDict w t1 t2 sa c t3) :: rest)) (S : SetS true (ledOf w) so P) : AddEnd w h₀ L m sa bx dx t1 t2 rest P s₁ .next { s₁ with heap := h', toks := tk' } :=
  ⟨rfl, so, c, t3, h', tk', rfl, F, N, S⟩
theorem iter_add {r sa bx dx : Addr} {n limit : Int} {t u v : Tok} {m₀ : Str → Option Value} {rest : Ledger} {so : Obj} {c : Int} {t1 t2 t3 : Tok}
    (hh : A.handled = none) (hr : IsRange s.heap r n (limit + 1) n t u v) (hn0 : 0 < n) (hn1 : n < 200) (hl0 : 0 < limit) (hl1 : limit ≤ 150)
    (F : Fr h₀ env.locals s.heap m₀) (N : News h₀ env.locals s.heap ((sa, so) :: (bx, instObj 173 dx) :: (dx, bmDict w t1 t2 sa c t3) :: rest)) (S : SetS true (ledOf w) so (fun _ => false))
    (turn : ∀ k t P so c t3 h tk own, 0 < k → k ≤ limit → OwnOff own (sa :: bx :: dx :: rest.map (·.1)) → SetS true (ledOf w) so P → Fr h₀ env.locals h (fun y => if y = x then some (.int k t) else m₀ y) →
      News h₀ env.locals h ((sa, so) :: (bx, instObj 173 dx) :: (dx, bmDict w t1 t2 sa c t3) :: (rest ++ own)) →
      wpAny (model prog w) A (execs body env) (AddEnd w h₀ env.locals (fun y => if y = x then some (.int k t) else m₀ y) sa bx dx t1 t2 (rest ++ own) (fun j => P j || decide (j = k)) { s with heap := h, toks := tk }) E { s with heap := h, toks := tk })
    (done : ∀ (u : Str → Option Value) so c t3 h tk, SetS true (ledOf w) so (mulP n limit) → Fr h₀ env.locals h (fun y => if y = x then u y else m₀ y) → News h₀ env.locals h ((sa, so) :: (bx, instObj 173 dx) :: (dx, bmDict w t1 t2 sa c t3) :: rest) → Q .next { s with heap := h, toks := tk }) :
    wpAny (model prog w) A (pyIter (.ref r)) (fun it s₂ => LoopAtV prog w A h₀ env x body Q E it s₂) E s := by
  have hsz : 0 ≤ Builtin.Range.rangeSize n (limit + 1) n ∧ Builtin.Range.rangeSize n (limit + 1) n ≤ 151 := by
    unfold Builtin.Range.rangeSize
    rw [if_pos hn0]
    split
    · have h1 := Int.ediv_nonneg (a := limit + 1 - n - 1) (b := n) (by omega) (by omega)
      have h2 := Int.ediv_le_self (a := limit + 1 - n - 1) n (by omega)
      omega
    · omega
  have hsz0 := hsz.1
  have hsmall : Builtin.Range.small n (limit + 1) n = true := by
    unfold Builtin.Range.small
    generalize Builtin.Range.rangeSize n (limit + 1) n = q at hsz
    simp only [Builtin.Range.rangeFitsLong, Bool.and_eq_true, Bool.or_eq_true, decide_eq_true_eq, beq_iff_eq]
    rw [if_pos hn0]
    simp only [Bool.and_eq_true, decide_eq_true_eq]
    omega
  obtain ⟨m, hm⟩ := Int.eq_ofNat_of_zero_le hsz0
  have hany := mul_any hn0 hl0 hm
  refine wpAny_pyIter_range hr hsmall ?_
  have W : Walks prog w A s.heap.objs.size [s.heap.objs.size] [s.heap.objs.size] m (fun i v => i < m ∧ ∃ t, v = .int (n + i * n) t)
      (fun i h => IsRangeIter h s.heap.objs.size (n + (i : Nat) * n) ((m : Int) - (i : Nat)) n) := (Walks.range hh _ n n m).bound
  refine loop_accS (ks := stepKs n n m)
    (fun P m₁ nx => (∃ so c t3, nx = (sa, so) :: (bx, instObj 173 dx) :: (dx, bmDict w t1 t2 sa c t3) :: rest ∧ SetS true (ledOf w) so P) ∧ ∀ z, z ≠ x → m₁ z = m₀ z)
    (fun P k => fun j => P j || decide (j = k)) (fun _ => false) W ⟨by simp [stepKs], ?_⟩ ?_ ?_ ?_ ?_ (by show IsRangeIter _ _ _ _ _; rw [hm]; simpa using Heap.get?_push_size _ rfl) (F.push _) (fun p hp => ⟨Heap.get?_push_of_some _ (N p hp).1, (N p hp).2⟩) ⟨⟨so, c, t3, rfl, S⟩, fun _ _ => rfl⟩ ?_ ?_
  · rintro i v hi ⟨_, t, rfl⟩
    exact ⟨n + (i : Int) * n, t, by simp [stepKs, hi], rfl⟩
  · intro hm
    exact absurd F.ns.lt ((List.mem_singleton.mp hm) ▸ Nat.lt_irrefl _)
  · intro b hb
    rw [List.mem_singleton.mp hb]
    exact next_is_new F
  · intro p hp hI
    exact absurd (Heap.lt_size (N p hp).1) ((List.mem_singleton.mp hI) ▸ Nat.lt_irrefl _)
  · intro p hp hI
    exact absurd (Heap.lt_size (N p hp).1) ((List.mem_singleton.mp hI) ▸ Nat.lt_irrefl _)
  · rintro k t P m₁ nx h tk own hk hown ⟨⟨so, c, t3, rfl, S⟩, hmm⟩ F' N'
    rw [map_none hmm] at F'
    have hkk : mulP n limit k = true := by
      rw [hany k, Bool.false_or, List.any_eq_true]
      exact ⟨k, hk, decide_eq_true rfl⟩
    unfold mulP at hkk
    rw [decide_eq_true_eq] at hkk
    refine wpAny_mono (turn k t P so c t3 h tk own hkk.1 hkk.2.1 (by simpa using hown) S F' (by simpa using N')) (fun f s₂ hf => ?_) fun _ _ e => e
    obtain ⟨rfl, so', c', t3', h', tk', rfl, F'', N'', S'⟩ := hf
    refine ⟨h', tk', _, _, (sa, so') :: (bx, instObj 173 dx) :: (dx, bmDict w t1 t2 sa c' t3') :: rest, rfl, F'', N'', ?_, ?_, rfl, ⟨so', c', t3', rfl, S'⟩, fun z hz => if_neg hz⟩
    · intro p hp
      simp only [List.mem_cons, List.mem_append] at hp ⊢
      rcases hp with h | h | h | h
      · exact .inl h
      · exact .inr (.inl h)
      · exact .inr (.inr (.inl h))
      · exact .inr (.inr (.inr (.inl h)))
    · intro p hp
      simp only [List.mem_cons, List.mem_append]
      exact .inr (.inr (.inr (.inr hp)))
  · rintro m₁ nx h tk ⟨⟨so, c, t3, rfl, S⟩, hmm⟩ F' N'
    rw [foldl_or] at S
    refine done m₁ so c t3 h tk (S.congr hany) ?_ N'
    rw [done_none hmm]; exact F'
end
end Mine
end
section
open PySem PySem.W PyProof.Rows
set_option maxRecDepth 100000
namespace Mine
section
variable {w : World} {M : Model} {A : Around} {E : Value → Shared → Prop} {s : Shared} {h₀ : Heap} {L : Addr} {m : Str → Option Value} {rest : Ledger} {P : Int → Bool}
def JoinEnd (w : World) (h₀ : Heap) (L : Addr) (m : Str → Option Value) (rest : Ledger) (P : Int → Bool) (s₁ : Shared) (f : Flow) (s₂ : Shared) : Prop :=
  f = .next ∧ ∃ bx dx sa so c t1 t2 t3 h' tk', s₂ = { s₁ with heap := h', toks := tk' } ∧ Fr h₀ L h' (fun y => if y = Str.ofString "one" then some (.ref bx) else m y) ∧
    News h₀ L h' ((sa, so) :: (bx, instObj 173 dx) :: (dx, bmDict w t1 t2 sa c t3) :: rest) ∧ AllLt dx rest ∧ @LT.lt Nat _ dx bx ∧ @LT.lt Nat _ bx sa ∧ SetS true (ledOf w) so P
theorem allLt_drop {d : Addr} : ∀ {l r : Ledger}, AllLt d (l ++ r) → AllLt d r
  | [], _, h => h
  | _ :: l, r, h => allLt_drop (l := l) h.2
theorem JoinEnd.new {s₁ : Shared} {bx dx sa bx0 dx0 sa0 : Addr} {so so0 o1 o2 : Obj} {c : Int} {t1 t2 t3 : Tok} {h' : Heap} {tk' : Nat}
    (F : Fr h₀ L h' (fun y => if y = Str.ofString "one" then some (.ref bx) else m y)) (N : News h₀ L h' ((sa, so) :: (bx, instObj 173 dx) :: (dx, bmDict w t1 t2 sa c t3) :: (sa0, so0) :: (bx0, o1) :: (dx0, o2) :: rest))
    (l1 : AllLt dx ((sa0, so0) :: (bx0, o1) :: (dx0, o2) :: rest)) (l2 : @LT.lt Nat _ dx bx) (l3 : @LT.lt Nat _ bx sa) (S : SetS true (ledOf w) so P) :
    JoinEnd w h₀ L m rest P s₁ .next { s₁ with heap := h', toks := tk' } :=
  ⟨rfl, bx, dx, sa, so, c, t1, t2, t3, h', tk', rfl, F, fun p hp => N p (by
    rcases List.mem_cons.mp hp with rfl | hp
    · exact .head _
    · rcases List.mem_cons.mp hp with rfl | hp
      · exact .tail _ (.head _)
      · rcases List.mem_cons.mp hp with rfl | hp
        · exact .tail _ (.tail _ (.head _))
        · exact .tail _ (.tail _ (.tail _ (.tail _ (.tail _ (.tail _ hp)))))), l1.2.2.2, l2, l3, S⟩
theorem JoinEnd.old {s₁ : Shared} {bx dx sa : Addr} {so : Obj} {c : Int} {t1 t2 t3 : Tok} {h' : Heap} {tk' : Nat}
    (F : Fr h₀ L h' m) (hone : m (Str.ofString "one") = some (.ref bx)) (N : News h₀ L h' ((sa, so) :: (bx, instObj 173 dx) :: (dx, bmDict w t1 t2 sa c t3) :: rest))
    (l1 : AllLt dx rest) (l2 : @LT.lt Nat _ dx bx) (l3 : @LT.lt Nat _ bx sa) (S : SetS true (ledOf w) so P) :
    JoinEnd w h₀ L m rest P s₁ .next { s₁ with heap := h', toks := tk' } :=
  ⟨rfl, bx, dx, sa, so, c, t1, t2, t3, h', tk', rfl, by
    have e : (fun y => if y = Str.ofString "one" then some (Value.ref bx) else m y) = m := by
      funext y
      by_cases h : y = Str.ofString "one"
      · rw [if_pos h, h, hone]
      · rw [if_neg h]
    rw [e]; exact F, N, l1, l2, l3, S⟩
theorem if_join {t : Sem Flow} {Q : Flow → Shared → Prop} {bx dx sa : Addr} {so : Obj} {c : Int} {t1 t2 t3 : Tok} (F : Fr h₀ L s.heap m) (N : News h₀ L s.heap ((sa, so) :: (bx, instObj 173 dx) :: (dx, bmDict w t1 t2 sa c t3) :: rest)) (hS : SetS true (ledOf w) so P)
    (h1 : wpAny M A t (JoinEnd w h₀ L m rest P s) E s)
    (h2 : ∀ bx dx sa so c t1 t2 t3 h' tk', Fr h₀ L h' (fun y => if y = Str.ofString "one" then some (.ref bx) else m y) → News h₀ L h' ((sa, so) :: (bx, instObj 173 dx) :: (dx, bmDict w t1 t2 sa c t3) :: rest) → AllLt dx rest →
      @LT.lt Nat _ dx bx → @LT.lt Nat _ bx sa → SetS true (ledOf w) so P → Q .next { s with heap := h', toks := tk' }) : wpAny M A t Q E s :=
  wpAny_mono h1 (fun f s₂ hf => by
    obtain ⟨rfl, bx, dx, sa, so, c, t1, t2, t3, h', tk', rfl, F', N', l1, l2, l3, S'⟩ := hf
    exact h2 bx dx sa so c t1 t2 t3 h' tk' F' N' l1 l2 l3 S') fun _ _ e => e
end
end Mine
end
section
open PySem PySem.W PyProof.Rows PySem.Calls
set_option maxRecDepth 100000
namespace Mine
open LCg
section
variable {prog : Program} {w : World} {A : Around} {E : Value → Shared → Prop} {s : Shared} {h₀ : Heap} {L : Addr} {m : Str → Option Value} {env : Env}
def PairEl (h₀ : Heap) (L : Addr) (m : Str → Option Value) (s₁ : Shared) (led : Ledger) (g : Int) (y : Value) (s₂ : Shared) : Prop :=
  ∃ t h' tk, y = .int g t ∧ s₂ = { s₁ with heap := h', toks := tk } ∧ Fr h₀ L h' m ∧ News h₀ L h' led
def PairTurn (prog : Program) (w : World) (A : Around) (h₀ : Heap) (L : Addr) (m : Str → Option Value) (env : Env) (elt : Expr) (x x₂ : Str) (scope : Scope) (cl : List (Str × Addr)) (s₁ : Shared) (news : Ledger) (v₁ v₂ : Value) (g : Int) : Prop :=
  ∀ I oI C oC D ys m₂ h tk (E' : Value → Shared → Prop), NsObj oC m₂ → m₂ x = some v₁ → m₂ x₂ = some v₂ → Fr h₀ L h m → News h₀ L h ((I, oI) :: (C, oC) :: (D, lst ys) :: news) → Off3 I C D news → ((@Ne Nat I C) ∧ (@Ne Nat I D) ∧ (@Ne Nat C D)) →
    wpAny (model prog w) A (eval elt (compEnvC scope cl C env)) (PairEl h₀ L m { s₁ with heap := h, toks := tk } ((I, oI) :: (C, oC) :: (D, lst ys) :: news) g) E' { s₁ with heap := h, toks := tk }
def tupObj (xs : Array Value) (n : Nat) : Obj := { cls := .type "tuple", data := .seq xs n }
def SrcT3 (prog : Program) (w : World) (A : Around) (h₀ : Heap) (L : Addr) (m : Str → Option Value) (env : Env) (elt : Expr) (x x₂ : Str) (scope : Scope) (cl : List (Str × Addr)) (y : Str) (Q : Flow → Shared → Prop) (xv : Value) (s₁ : Shared) : Prop :=
  ∃ ax ta tb tc nx na nb nc a0 a1 b0 b1 c0 c1 news ga gb gc, xv = .ref ax ∧ A.handled = none ∧ Fr h₀ L s₁.heap m ∧ News h₀ L s₁.heap news ∧ (ax, tupObj #[.ref ta, .ref tb, .ref tc] nx) ∈ news ∧
    (ta, tupObj #[a0, a1] na) ∈ news ∧ (tb, tupObj #[b0, b1] nb) ∈ news ∧ (tc, tupObj #[c0, c1] nc) ∈ news ∧
    PairTurn prog w A h₀ L m env elt x x₂ scope cl s₁ news a0 a1 ga ∧ PairTurn prog w A h₀ L m env elt x x₂ scope cl s₁ news b0 b1 gb ∧ PairTurn prog w A h₀ L m env elt x x₂ scope cl s₁ news c0 c1 gc ∧
    (∀ D ys h tk, IntsAre ys [ga, gb, gc] → Fr h₀ L h (fun z => if z = y then some (.ref D) else m z) → News h₀ L h ((D, lst ys) :: news) → Off1 D news → Q .next { s₁ with heap := h, toks := tk })
theorem intsAre_snoc {ys : List Value} {ns : List Int} {g : Int} {t : Tok} (h : IntsAre ys ns) : IntsAre (ys ++ [.int g t]) (ns ++ [g]) := by
  induction h with
  | nil => exact .cons _ _ .nil
  | cons _ _ _ ih => exact .cons _ _ ih
theorem assign_pairs3 {elt iter : Expr} {x x₂ y : Str} {px px₂ tp py : Pos} {tk} {scope : Scope} {cl : List (Str × Addr)} {pos spos : Pos} {Q : Flow → Shared → Prop} (F₀ : Fr h₀ L s.heap m) (hLe : env.locals = L)
    (hsw : swapsWith (.ListComp elt [⟨.Tuple [.Name x px, .Name x₂ px₂] tk tp, iter, [], 0⟩] scope pos) (some (.Name y py)) spos.line env = pure true)
    (hclos : closureFor scope env = pure cl) (hcell : ∀ z ∈ scope.names, z.2 ≠ .cell) (hkind : scope.kind = .function)
    (hnames : ∀ z ∈ scope.names, z.2 = .local → scope.names.lookup z.1 = some .local) (hx : scope.names.lookup x = some .local) (hx₂ : scope.names.lookup x₂ = some .local) (hxx : x ≠ x₂)
    (hy : env.kindOf y = some .local) (hp : (env.scope.kind == .class || (env.scope.kind == .module && env.locals != env.globals)) = false)
    (hs : ∀ x, foldedSetIterable iter env x = pure x)
    (h : wpAny (model prog w) A (eval iter env) (SrcT3 prog w A h₀ L m env elt x x₂ scope cl y Q) E s) :
    wpAny (model prog w) A (exec (.Assign [.Name y py] (.ListComp elt [⟨.Tuple [.Name x px, .Name x₂ px₂] tk tp, iter, [], 0⟩] scope pos) spos) env) Q E s := by
  subst hLe
  rw [exec_Assign_Name_used _ _ _ _ hsw]
  refine wpAny_bind (wpAny_standAt (wpAny_bind ?_))
  show wpAny _ A (do let _ ← comprehension (.ListComp elt [⟨.Tuple [.Name x px, .Name x₂ px₂] tk tp, iter, [], 0⟩] scope pos) scope env _ (newList []) false (eval iter env) (some (assign (.Name y py) env))) _ _ s
  refine wpAny_bind (wpAny_mono (wpAny_comprehension_free (use := some (assign (.Name y py) env)) (Q := fun _ s' => Q .next s') rfl hs hclos hkind hnames
    (wpAny_mono h (fun xv s₁ h₁ => ?_) fun _ _ e => e)) (fun _ s' hq => wpAny_pure (wpAny_pure hq)) fun _ _ e => e)
  obtain ⟨ax, ta, tb, tc, nx, na, nb, nc, a0, a1, b0, b1, c0, c1, news, ga, gb, gc, rfl, hh, F, N, max, ma, mb, mc, Ta, Tb, Tc, fin⟩ := h₁
  have hax := (N _ max).1
  have hlt : ax < s₁.heap.objs.size := Heap.lt_size hax
  refine wpAny_pyIter_tuple (items := #[.ref ta, .ref tb, .ref tc]) ⟨_, hax, rfl, ⟨_, rfl⟩⟩ ?_
  generalize hI : s₁.heap.objs.size = I
  have F1 : Fr h₀ env.locals (s₁.heap.push { cls := .type "tuple_iterator", data := .fields #[.ref ax, .int 0 0] }) m := F.keeps fun b o e => Heap.get?_push_of_some _ e
  have N1 : News h₀ env.locals (s₁.heap.push { cls := .type "tuple_iterator", data := .fields #[.ref ax, .int 0 0] }) news := N.grown fun b o e => Heap.get?_push_of_some _ e
  have hIit : (s₁.heap.push { cls := .type "tuple_iterator", data := .fields #[.ref ax, .int 0 0] }).get? I = some { cls := .type "tuple_iterator", data := .fields #[.ref ax, .int 0 0] } := by rw [← hI]; exact Heap.get?_push_size _ rfl
  have hI0 : h₀.get? I = none := by rw [← hI]; exact next_is_new F
  have hLI : env.locals ≠ I := by rw [← hI]; exact Nat.ne_of_lt F.ns.lt
  have offI : ∀ p ∈ news, p.1 ≠ I := fun p hp => by rw [← hI]; exact Nat.ne_of_lt (Heap.lt_size (N p hp).1)
  have hIs : I < (s₁.heap.push { cls := .type "tuple_iterator", data := .fields #[.ref ax, .int 0 0] }).objs.size := by rw [Heap.size_push, ← hI]; exact Nat.lt_succ_self _
  generalize hH1 : s₁.heap.push { cls := .type "tuple_iterator", data := .fields #[.ref ax, .int 0 0] } = H1 at F1 N1 hIit hIs ⊢
  clear hH1 N F hax hlt hI
  generalize htk1 : s₁.toks = tk1
  refine wpAny_newObj_type (wpAny_newFunctionEnv hcell (by intro y hy; simp at hy) (fun h₁ hns₁ hsb₁ => ?_) hkind)
  dsimp only at hns₁ hsb₁ ⊢
  generalize hD : H1.objs.size = D
  have hD' : (H1.push { cls := .type "list", dict := none, data := .seq ([] : List Value).toArray }).get? D = some { cls := .type "list", dict := none, data := .seq ([] : List Value).toArray } := by rw [← hD]; exact Heap.get?_push_size _ rfl
  have fresh : ∀ a, H1.objs.size ≤ a → H1.get? a = none := fun a ha => by
    cases e : H1.get? a with
    | none => rfl
    | some o' => exact absurd (Heap.lt_size e) (Nat.not_lt.mpr ha)
  have fresh₀ : ∀ a, H1.objs.size ≤ a → h₀.get? a = none := fun a ha => by
    cases e : h₀.get? a with
    | none => rfl
    | some o' => have := F1.keep a o' e; rw [fresh a ha] at this; cases this
  generalize hH2 : H1.push { cls := .type "list", dict := none, data := .seq ([] : List Value).toArray } = H2 at hns₁ hsb₁ hD' ⊢
  have up2 : ∀ b o, H1.get? b = some o → H2.get? b = some o := fun b o e => by rw [← hH2]; exact Heap.get?_push_of_some _ e
  generalize hC : H2.objs.size = C at hns₁ hsb₁ ⊢
  have hCD : C = D + 1 := by rw [← hC, ← hD, ← hH2, Heap.size_push]
  have lt1 : ∀ {b o}, H1.get? b = some o → b < D := fun e => hD ▸ Heap.lt_size e
  have hD₀ : h₀.get? D = none := fresh₀ D (by rw [hD]; exact Nat.le_refl _)
  have hC₀ : h₀.get? C = none := fresh₀ C (by rw [hD, hCD]; exact Nat.le_succ _)
  have hID : I < D := lt1 hIit
  have hLD : env.locals < D := hD ▸ F1.ns.lt
  have nC : ∀ b, b < D → b ≠ C := fun b hb => by rw [hCD]; exact Nat.ne_of_lt (Nat.lt_succ_of_lt hb)
  have nD : ∀ b, b < D → b ≠ D := fun b hb => Nat.ne_of_lt hb
  have hDC : D ≠ C := by rw [hCD]; exact Nat.ne_of_lt (Nat.lt_succ_self _)
  have up : ∀ b o, H1.get? b = some o → h₁.get? b = some o := fun b o e => hsb₁.extBut b o (nC b (lt1 e)) (Heap.get?_push_of_some _ (up2 b o e))
  have hacc : h₁.get? D = some (lst []) := hsb₁.extBut _ _ hDC (Heap.get?_push_of_some _ hD')
  have off : ∀ p ∈ news, p.1 ≠ I ∧ p.1 ≠ C ∧ p.1 ≠ D := fun p hp => ⟨offI p hp, nC _ (lt1 (N1 p hp).1), nD _ (lt1 (N1 p hp).1)⟩
  have hax1 := (N1 _ max).1
  have hAI : ax ≠ I := (off _ max).1
  have W := Walks.tuple (prog := prog) (w := w) hh I ax hAI #[.ref ta, .ref tb, .ref tc]
  have loop : ∀ s₃ : Shared, s₃ = { s₁ with heap := h₁, toks := tk1 + ([] : List (Str × Value)).length } →
      codeAny (model prog w) A (.compLoop (.ListComp elt [⟨.Tuple [.Name x px, .Name x₂ px₂] tk tp, iter, [], 0⟩] scope pos) 0 (.ref I) (.ref D) (compEnvC scope cl C env))
        (compPost (model prog w) A E (some (assign (.Name y py) env)) (fun _ s' => Q .next s') (.ref D) C) s₃ := by
    rintro s₃ rfl
    refine LCp.codeAny_compLoop_pair
      (fun k s' => ∃ h' tk i ys m', s' = { s₁ with heap := h', toks := tk } ∧ i ≤ 3 ∧ k = 4 - i ∧ IntsAre ys ([ga, gb, gc].take i) ∧ (h'.IsTupleIter I ax i ∧ h'.IsTuple ax #[.ref ta, .ref tb, .ref tc]) ∧ Fr h₀ env.locals h' m ∧ h'.Ns C m' ∧ News h₀ env.locals h' ((D, lst ys) :: news)) ?_ 4
      ⟨h₁, _, 0, [], _, rfl, by omega, rfl, .nil, ⟨⟨_, up _ _ hIit, rfl, rfl⟩, ⟨_, up _ _ hax1, rfl, ⟨_, rfl⟩⟩⟩, F1.keeps up, hns₁, fun p hp => ?_⟩
    · rintro k s' ⟨h', tk, i, ys, m', rfl, hi, rfl, hys, hst, F', hn', N'⟩
      by_cases hlt : i < 3
      · refine W.item i _ _ _ hlt hst fun v h₂ tk₂ hv hst₂ hk₂ => ?_
        have hkI : ∀ b o, b ≠ I → h'.get? b = some o → h₂.get? b = some o := fun b o hb e => hk₂ b o (by simpa using hb) e
        have N₂ : News h₀ env.locals h₂ ((D, lst ys) :: news) := fun p hp => ⟨hkI _ _ (by
          rcases List.mem_cons.mp hp with rfl | hp
          · exact (Nat.ne_of_lt hID).symm
          · exact (off p hp).1) (N' p hp).1, (N' p hp).2⟩
        obtain ⟨t, nt, v₁, v₂, g, rfl, hmt, hT, hg⟩ : ∃ t nt v₁ v₂ g, v = .ref t ∧ (t, tupObj #[v₁, v₂] nt) ∈ news ∧ PairTurn prog w A h₀ env.locals m env elt x x₂ scope cl s₁ news v₁ v₂ g ∧ [ga, gb, gc].take (i + 1) = [ga, gb, gc].take i ++ [g] := by
          rcases (by omega : i = 0 ∨ i = 1 ∨ i = 2) with rfl | rfl | rfl
          · exact ⟨ta, na, a0, a1, ga, (Option.some.inj hv).symm, ma, Ta, rfl⟩
          · exact ⟨tb, nb, b0, b1, gb, (Option.some.inj hv).symm, mb, Tb, rfl⟩
          · exact ⟨tc, nc, c0, c1, gc, (Option.some.inj hv).symm, mc, Tc, rfl⟩
        have ht : IsTup h₂ t #[v₁, v₂] := ⟨_, (N₂ _ (List.mem_cons_of_mem _ hmt)).1, rfl, nt, rfl⟩
        refine letGo_tupleiter hst₂.1 ?_
        refine assign_Tuple_tuple hh ht rfl rfl fun h₅ he => ?_
        have he' : ∀ b o, h₂.get? b = some o → h₅.get? b = some o := fun b o e => he b o (Nat.ne_of_lt (Heap.lt_size e)) e
        have hnC : h₅.Ns C m' := (hn'.at' fun o e => hkI _ o (by rw [hCD]; exact fun q => by omega) e).at' fun o e => he' _ o e
        refine assignInOrder_cons (wpAny_assign_Name (wpAny_storeName_local (lookup_relabel_local hx) hnC (fun h₆ hn₆ hs₆ => ?_) (by simp [compEnvC, relabel, hkind])))
        refine assignInOrder_cons (wpAny_assign_Name (wpAny_storeName_local (lookup_relabel_local hx₂) hn₆ (fun h₃ hn₃ hs₃ => ?_) (by simp [compEnvC, relabel, hkind])))
        refine assignInOrder_nil ?_
        have up3 : ∀ b o, b ≠ C → h₂.get? b = some o → h₃.get? b = some o := fun b o hb e => hs₃.extBut b o hb (hs₆.extBut b o hb (he' b o e))
        obtain ⟨⟨oI, heI, hcI, hdI⟩, hTup⟩ := hst₂
        obtain ⟨oC, heC, hoC⟩ := ns_obj hn₃
        have F₃ : Fr h₀ env.locals h₃ m := (((fr_but F' hk₂ hLI hI0).keeps he').change hs₆ (nC _ hLD).symm hC₀).change hs₃ (nC _ hLD).symm hC₀
        have N₃ : News h₀ env.locals h₃ ((I, oI) :: (C, oC) :: (D, lst ys) :: news) := fun p hp => by
          rcases List.mem_cons.mp hp with rfl | hp
          · exact ⟨up3 _ _ (nC _ hID) heI, hLI.symm, hI0⟩
          · rcases List.mem_cons.mp hp with rfl | hp
            · exact ⟨heC, (nC _ hLD).symm, hC₀⟩
            · refine ⟨up3 _ _ ?_ (N₂ p hp).1, (N₂ p hp).2⟩
              rcases List.mem_cons.mp hp with rfl | hp
              · exact hDC
              · exact (off p hp).2.1
        refine wpAny_mono (hT I oI C oC D ys _ h₃ _ _ hoC (by simp [hxx]) (by simp) F₃ N₃ (Off3.of off) ⟨nC _ hID, nD _ hID, hDC.symm⟩) (fun y' s₄ h₄ => ?_) fun _ _ e => e
        obtain ⟨t', h₄, tk₄, rfl, rfl, F₄, N₄⟩ := h₄
        have zI := (N₄ (I, oI) (.head _)).1
        have zC := (N₄ (C, oC) (.tail _ (.head _))).1
        have zD := (N₄ (D, lst ys) (.tail _ (.tail _ (.head _)))).1
        have hl3 : ys.length ≤ 3 := by rw [hys.length]; simp; omega
        refine append_at (hsz := by show ys.toArray.size ≤ sizeLine; rw [List.size_toArray]; exact Nat.le_trans hl3 (by decide)) zD fun h₅ hs₅ hD₅ => ?_
        refine ⟨4 - (i + 1), by omega, h₅, tk₄, i + 1, ys ++ [.int g t'], _, rfl, hlt, rfl, by rw [hg]; exact intsAre_snoc hys, ⟨⟨oI, hs₅.extBut _ _ (nD _ hID) zI, hcI, hdI⟩, ⟨_, hs₅.extBut _ _ (off _ max).2.2 (N₄ (ax, _) (.tail _ (.tail _ (.tail _ max)))).1, rfl, ⟨_, rfl⟩⟩⟩, F₄.change hs₅ (nD _ hLD).symm hD₀,
          (hoC.ns zC).sameBut hs₅ hDC.symm, fun p hp => ?_⟩
        rcases List.mem_cons.mp hp with rfl | hp
        · exact ⟨hD₅.trans (congrArg some (lst_snoc ys _)), (nD _ hLD).symm, hD₀⟩
        · exact ⟨hs₅.extBut _ _ (off p hp).2.2 (N₄ p (.tail _ (.tail _ (.tail _ hp)))).1, (N₄ p (.tail _ (.tail _ (.tail _ hp)))).2⟩
      · obtain rfl : i = 3 := by omega
        refine W.done _ _ _ hst fun h₂ tk₂ hk₂ => ?_
        have hkI : ∀ b o, b ≠ I → h'.get? b = some o → h₂.get? b = some o := fun b o hb e => hk₂ b o (by simpa using hb) e
        have F₂ := fr_but F' hk₂ hLI hI0
        have hnC : h₂.Ns C m' := hn'.at' fun o e => hkI _ o (by rw [hCD]; exact fun q => by omega) e
        have N₂ : News h₀ env.locals h₂ ((D, lst ys) :: news) := fun p hp => ⟨hkI _ _ (by
          rcases List.mem_cons.mp hp with rfl | hp
          · exact (Nat.ne_of_lt hID).symm
          · exact (off p hp).1) (N' p hp).1, (N' p hp).2⟩
        show wpAny _ A (assign (.Name y py) env (.ref D)) _ _ _
        refine wpAny_assign_Name (wpAny_storeName_local hy F₂.ns (fun h₃ hn₃ hs₃ => ?_) hp)
        have hL₀ : h₀.get? env.locals = none := Heap.get?_none_of_le F₂.above
        have F₃ : Fr h₀ env.locals h₃ (fun z => if z = y then some (.ref D) else m z) := ⟨hn₃, fun b o e => hs₃.extBut b o (fun q => by rw [q, hL₀] at e; cases e) (F₂.keep b o e), F₂.above⟩
        refine ⟨m', hnC.sameBut hs₃ (nC _ hLD).symm, fun h'' hs'' => fin D ys h'' _ hys (F₃.change hs'' (nC _ hLD).symm hC₀) (fun p hp => ?_) (Off3.one (Off3.of (I := I) (C := C) off))⟩
        have z : h₃.get? p.1 = some p.2 := hs₃.extBut _ _ (N₂ p hp).2.1 (N₂ p hp).1
        refine ⟨hs''.extBut _ _ ?_ z, (N₂ p hp).2⟩
        rcases List.mem_cons.mp hp with rfl | hp
        · exact hDC
        · exact (off p hp).2.1
    · rcases List.mem_cons.mp hp with rfl | hp
      · exact ⟨hacc, (nD _ hLD).symm, hD₀⟩
      · exact ⟨up _ _ (N1 p hp).1, (N1 p hp).2⟩
  exact codeAny_compStart_list (loop _ rfl) (W.self 0 _ _ _ ⟨⟨_, up _ _ hIit, rfl, rfl⟩, ⟨_, up _ _ hax1, rfl, ⟨_, rfl⟩⟩⟩ (loop _ rfl))
theorem SrcT3.mk {elt : Expr} {x x₂ : Str} {scope : Scope} {cl : List (Str × Addr)} {y : Str} {Q : Flow → Shared → Prop} {s₁ : Shared} {ax ta tb tc ln : Addr} {nx na nb nc : Nat} {a0 a1 b0 b1 c0 c1 : Value} {news : Ledger} {ol : Obj} {limit n0 n1 n2 : Int} {tl t0 t1 t2 : Tok}
    (hh : A.handled = none) (F : Fr h₀ L s₁.heap m) (N : News h₀ L s₁.heap news) (max : (ax, tupObj #[.ref ta, .ref tb, .ref tc] nx) ∈ news)
    (ma : (ta, tupObj #[a0, a1] na) ∈ news) (mb : (tb, tupObj #[b0, b1] nb) ∈ news) (mc : (tc, tupObj #[c0, c1] nc) ∈ news) (hl : ol.data = Data.cell (some (.int limit tl))) (hn : (ln, lst [.int n0 t0, .int n1 t1, .int n2 t2]) ∈ news)
    (Ta : PairTurn prog w A h₀ L m env elt x x₂ scope cl s₁ news a0 a1 (limit.fdiv ((Int.lcm n0 n1 : Nat) : Int))) (Tb : PairTurn prog w A h₀ L m env elt x x₂ scope cl s₁ news b0 b1 (limit.fdiv ((Int.lcm n0 n2 : Nat) : Int)))
    (Tc : PairTurn prog w A h₀ L m env elt x x₂ scope cl s₁ news c0 c1 (limit.fdiv ((Int.lcm n1 n2 : Nat) : Int)))
    (fin : ∀ D ys h tk, IntsAre ys [limit.fdiv ((Int.lcm n0 n1 : Nat) : Int), limit.fdiv ((Int.lcm n0 n2 : Nat) : Int), limit.fdiv ((Int.lcm n1 n2 : Nat) : Int)] → Fr h₀ L h (fun z => if z = y then some (.ref D) else m z) → News h₀ L h ((D, lst ys) :: news) → Off1 D news → Q .next { s₁ with heap := h, toks := tk }) :
    SrcT3 prog w A h₀ L m env elt x x₂ scope cl y Q (.ref ax) s₁ :=
  ⟨_, _, _, _, _, _, _, _, _, _, _, _, _, _, _, _, _, _, rfl, hh, F, N, max, ma, mb, mc, Ta, Tb, Tc, fin⟩
theorem PairEl.mk {led : Ledger} {g : Int} {t : Tok} {h' : Heap} {tk : Nat} {s₁ : Shared} (F : Fr h₀ L h' m) (N : News h₀ L h' led) : PairEl h₀ L m s₁ led g (.int g t) { s₁ with heap := h', toks := tk } := ⟨_, _, _, rfl, rfl, F, N⟩
end
theorem lcm_pos' {a b : Int} (ha : 0 < a) (hb : 0 < b) : 0 < ((Int.lcm a b : Nat) : Int) := by
  have : 0 < Int.lcm a b := Int.lcm_pos (by omega) (by omega)
  omega
theorem lcm_less {a b : Int} (ha : 0 < a) (hb : 0 < b) (h1 : a ≤ 141) (h2 : b ≤ 141) : ((Int.lcm a b : Nat) : Int) < 20000 := by
  have h : Int.lcm a b ∣ a.natAbs * b.natAbs := by
    rw [Int.lcm]; exact Nat.lcm_dvd_mul _ _
  have h3 : 0 < a.natAbs * b.natAbs := Nat.mul_pos (by omega) (by omega)
  have h4 := Nat.le_of_dvd h3 h
  have h5 : a.natAbs * b.natAbs ≤ 141 * 141 := Nat.mul_le_mul (by omega) (by omega)
  omega
theorem bm_lcm (w : World) (mean : ExcName → Option Value) (mg mb : Str → Option Value) (dp un : Nat) (gd : Option (List Code)) (cn : Str) (cs : Scope) (a : Addr) (ccd : Value) (cl : List (Str × Addr)) (outer : List Env) (A₀ : Around) (base h₀ : Heap) (L : Addr) (m : Str → Option Value) (news : Ledger) (s : Shared) (Q E : Value → Shared → Prop)
    (B : Below A₀ base outer h₀) (F : Fr h₀ L s.heap m) (X : (Mine.hd.heap_39 w.params).In h₀) (N : News h₀ L s.heap news) (T : Top Mine.hd.view_39 (looseW Mine.hd.view_39 [Str.ofString "struct", Str.ofString "BytesIO"]) mean mg mb h₀) (hk : cs.kind = .function) (hd : dp + 8 < recursionLimit) (hu : un + 100 < cLine)
    (l0 : Addr) (vs : List Value) (ns : List Int) (hl : base.IsList l0 vs.toArray) (hi : IntsAre vs ns)
    (a' b' : Int) (ta tb : Tok) (ha0 : 0 < a') (ha1 : a' < 20000) (hb0 : 0 < b') (hb1 : b' < 200)
    (hret : ∀ (t : Tok) (h' : Heap) (tk' : Nat), Fr h₀ L h' m → News h₀ L h' news → 0 < ((Int.lcm a' b' : Nat) : Int) → (a' ≤ 141 → b' ≤ 141 → ((Int.lcm a' b' : Nat) : Int) < 20000) → Q (.int ((Int.lcm a' b' : Nat) : Int) t) { s with heap := h', toks := tk' }) :
    wpAny (model Challenge.rw_bh0020_01.row.prog w) (ktrTop dp un gd cn cs L a ccd cl outer) (call (.ref 191) [.int a' ta, .int b' tb]) Q E s :=
  bm_multiple w mean mg mb dp un gd cn cs a ccd cl outer A₀ base h₀ L m news s Q E B F X N T hk hd hu l0 vs ns hl hi a' b' ta tb ha0 ha1 hb0 hb1 fun t h' tk' F' N' => hret t h' tk' F' N' (lcm_pos' ha0 hb0) fun h1 h2 => lcm_less ha0 hb0 h1 h2
theorem fr_cons {m r : Str → Option Value} {k : Str} {v : Value} (h : m k = some v) (e : m = r) : m = fun y => if y = k then some v else r y := by
  funext y
  by_cases c : y = k
  · rw [if_pos c, c, h]
  · rw [if_neg c]; exact congrFun e y
def lstN (xs : List Value) (n : Nat) : Obj := { cls := .type "list", data := .seq xs.toArray n }
theorem ne_ints_same {prog : Program} {w : World} {A : Around} {E : Value → Shared → Prop} {s : Shared} {h₀ : Heap} {L a b : Addr} {led : Ledger} {xs ys : List Value} {ns : List Int} {Q : Value → Shared → Prop} (N : News h₀ L s.heap led) {n1 n2 : Nat} (m1 : (a, lstN xs n1) ∈ led) (m2 : (b, lstN ys n2) ∈ led)
    (hi : IntsAre xs ns) (hj : IntsAre ys ns) (hu : A.units + 64 < cLine) (h : Q (.bool false) s) : wpAny (model prog w) A (compareOp .NotEq (.ref a) (.ref b)) Q E s :=
  ke_ne_ints ⟨_, (N _ m1).1, rfl, _, rfl⟩ ⟨_, (N _ m2).1, rfl, _, rfl⟩ hi hj hu (by simpa using h)
open PyProof.V in
theorem sum_led {prog : Program} {w : World} {A : Around} {E : Value → Shared → Prop} {s : Shared} {h₀ : Heap} {L a : Addr} {m : Str → Option Value} {led : Ledger} {vs : List Value} {ns : List Int} {Q : Value → Shared → Prop} (hh : A.handled = none) (F : Fr h₀ L s.heap m) (N : News h₀ L s.heap led) (m1 : (a, LCg.lst vs) ∈ led) (hi : IntsAre vs ns)
    (h : ∀ (t' : Tok) (h' : Heap) (tk' : Nat), Fr h₀ L h' m → News h₀ L h' led → Q (.int ns.sum t') { s with heap := h', toks := tk' }) : wpAny (model prog w) A (call (.builtin "sum") [.ref a]) Q E s := by
  have hl : s.heap.IsList a vs.toArray := ⟨_, (N _ m1).1, rfl, _, rfl⟩
  obtain ⟨xs, hx⟩ := hi.allInts.items
  have hn : numsOf vs.toArray.toList = ns := by rw [show vs.toArray.toList = vs from rfl, hi.numsOf]
  rw [hx] at hl hn
  rw [nums_intItems] at hn
  refine sum_intListG hh hl fun h' tk t' hk => ?_
  have := h t' h' tk (F.keeps hk) (N.grown hk)
  rw [preSum_eq, List.take_of_length_le (by simp), hn]
  exact this
theorem same1 : ∀ a b c : Bool, ((a || b) || c) = (c || (b || a)) := by decide
theorem same2 : ∀ a b c : Bool, ((a ^^ b) ^^ c) = (b ^^ (c ^^ a)) := by decide
theorem same3 : ∀ p a b c : Bool, (((p && !a) && !b) && !c) = (p && !((c || a) || b)) := by decide
theorem same4 : ∀ p a b c : Bool, ((a || b || c) = true → p = true) → (p && !(((p && !a) && !b) && !c)) = ((a || b) || c) := by decide
theorem same5 : ∀ a b c : Bool, ((a ^^ b) ^^ c) = ((((((a || b) || c) && !(a && b)) && !(a && c)) && !(b && c)) || ((a && b) && c)) := by decide
theorem same4' {P0 P1 P2 Pa : Int → Bool} (h : ∀ k, (P0 k || P1 k || P2 k) = true → Pa k = true) : ∀ k, (Pa k && !(((Pa k && !P0 k) && !P1 k) && !P2 k)) = ((P0 k || P1 k) || P2 k) := fun k => same4 _ _ _ _ (h k)
end Mine
end
section
open PySem PySem.W PyProof.Rows
namespace Mine
theorem div_count (n l : Nat) : ∀ N : Nat, (List.range (N + 1)).countP (fun i => decide (0 < i ∧ i ≤ l ∧ n ∣ i)) = (min N l) / n := by
  intro N
  induction N with
  | zero => simp [List.range_succ]
  | succ N ih =>
    rw [List.range_succ, List.countP_append, ih, List.countP_singleton]
    by_cases h : N + 1 ≤ l
    · rw [show min (N + 1) l = N + 1 by omega, show min N l = N by omega, Nat.succ_div]
      by_cases hd : n ∣ N + 1 <;> simp [hd, h]
    · rw [show min (N + 1) l = l by omega, show min N l = l by omega]
      simp [h]
theorem cnt_mulP {n limit : Int} (hn : 0 < n) (h0 : 0 ≤ limit) (h1 : limit ≤ 150) : ((cnt (mulP n limit) : Nat) : Int) = limit.fdiv n := by
  obtain ⟨a, rfl⟩ := Int.eq_ofNat_of_zero_le (Int.le_of_lt hn)
  obtain ⟨l, rfl⟩ := Int.eq_ofNat_of_zero_le h0
  have e : cnt (mulP (a : Int) (l : Int)) = l / a := by
    have := div_count a l 151
    rw [show min 151 l = l by omega] at this
    rw [← this, cnt]
    apply List.countP_congr
    intro i _
    simp only [mulP, decide_eq_true_eq]
    have : ((i : Int) % (a : Int) = 0) ↔ a ∣ i := by
      rw [← Int.dvd_iff_emod_eq_zero]; exact Int.natCast_dvd_natCast
    rw [this]; omega
  rw [e, Int.fdiv_eq_ediv_of_nonneg _ (by omega)]
  simp
theorem mulP_and (a b limit : Int) : (fun k => mulP a limit k && mulP b limit k) = mulP ((Int.lcm a b : Nat) : Int) limit := by
  funext k
  have h : (k % ((Int.lcm a b : Nat) : Int) = 0) ↔ (k % a = 0 ∧ k % b = 0) := by
    rw [← Int.dvd_iff_emod_eq_zero, ← Int.dvd_iff_emod_eq_zero, ← Int.dvd_iff_emod_eq_zero]
    exact ⟨fun h => ⟨Int.dvd_trans (Int.dvd_lcm_left a b) h, Int.dvd_trans (Int.dvd_lcm_right a b) h⟩, fun h => Int.coe_lcm_dvd h.1 h.2⟩
  simp only [mulP, h]
  rw [Bool.eq_iff_iff]
  simp only [Bool.and_eq_true, decide_eq_true_eq]
  constructor
  · rintro ⟨⟨x, y, z⟩, _, _, z'⟩; exact ⟨x, y, z, z'⟩
  · rintro ⟨x, y, z, z'⟩; exact ⟨⟨x, y, z⟩, x, y, z'⟩
section
variable {a b limit : Int}
theorem cnt_two {a b limit : Int} (ha : 0 < a) (hb : 0 < b) (h0 : 0 ≤ limit) (h1 : limit ≤ 150) : ((cnt (fun k => mulP a limit k && mulP b limit k) : Nat) : Int) = limit.fdiv ((Int.lcm a b : Nat) : Int) := by
  rw [mulP_and]; exact cnt_mulP (lcm_pos' ha hb) h0 h1
theorem cnt_three {a b c limit : Int} (ha : 0 < a) (hb : 0 < b) (hc : 0 < c) (h0 : 0 ≤ limit) (h1 : limit ≤ 150) : ((cnt (fun k => (mulP a limit k && mulP b limit k) && mulP c limit k) : Nat) : Int) = limit.fdiv ((Int.lcm ((Int.lcm a b : Nat) : Int) c : Nat) : Int) := by
  have : (fun k => (mulP a limit k && mulP b limit k) && mulP c limit k) = fun k => mulP ((Int.lcm a b : Nat) : Int) limit k && mulP c limit k := by
    funext k; rw [← congrFun (mulP_and a b limit) k]
  rw [this]; exact cnt_two (lcm_pos' ha hb) hc h0 h1
end
section
variable (p a b c : Int → Bool)
theorem cntL_some : ∀ l : List Nat, (((l.countP fun (i : Nat) => (a (i : Int) || b (i : Int)) || c (i : Int)) : Nat) : Int) = ((l.countP fun (i : Nat) => a (i : Int)) : Nat) + ((l.countP fun (i : Nat) => b (i : Int)) : Nat) + ((l.countP fun (i : Nat) => c (i : Int)) : Nat) - (((l.countP fun (i : Nat) => a (i : Int) && b (i : Int)) : Nat) + ((l.countP fun (i : Nat) => a (i : Int) && c (i : Int)) : Nat) + ((l.countP fun (i : Nat) => b (i : Int) && c (i : Int)) : Nat)) + ((l.countP fun (i : Nat) => (a (i : Int) && b (i : Int)) && c (i : Int)) : Nat)
  | [] => by simp
  | i :: l => by
    have := cntL_some l
    simp only [List.countP_cons]
    cases a i <;> cases b i <;> cases c i <;> simp <;> omega
theorem cntL_odd : ∀ l : List Nat, (((l.countP fun (i : Nat) => (a (i : Int) ^^ b (i : Int)) ^^ c (i : Int)) : Nat) : Int) = ((l.countP fun (i : Nat) => a (i : Int)) : Nat) + ((l.countP fun (i : Nat) => b (i : Int)) : Nat) + ((l.countP fun (i : Nat) => c (i : Int)) : Nat) - 2 * (((l.countP fun (i : Nat) => a (i : Int) && b (i : Int)) : Nat) + ((l.countP fun (i : Nat) => a (i : Int) && c (i : Int)) : Nat) + ((l.countP fun (i : Nat) => b (i : Int) && c (i : Int)) : Nat)) + 4 * ((l.countP fun (i : Nat) => (a (i : Int) && b (i : Int)) && c (i : Int)) : Nat)
  | [] => by simp
  | i :: l => by
    have := cntL_odd l
    simp only [List.countP_cons]
    cases a i <;> cases b i <;> cases c i <;> simp at this ⊢ <;> omega
theorem cntL_none (h : ∀ k, (a k || b k || c k) = true → p k = true) : ∀ l : List Nat, (((l.countP fun (i : Nat) => ((p (i : Int) && !a (i : Int)) && !b (i : Int)) && !c (i : Int)) : Nat) : Int) = ((l.countP fun (i : Nat) => p (i : Int)) : Nat) - ((l.countP fun (i : Nat) => (a (i : Int) || b (i : Int)) || c (i : Int)) : Nat)
  | [] => by simp
  | i :: l => by
    have := cntL_none h l
    have hi := h i
    simp only [List.countP_cons]
    revert hi
    cases p i <;> cases a i <;> cases b i <;> cases c i <;> simp <;> omega
end
theorem law_some {a b c limit : Int} (ha : 0 < a) (hb : 0 < b) (hc : 0 < c) (h0 : 0 ≤ limit) (h1 : limit ≤ 150) :
    ((cnt (fun j => (mulP a limit j || mulP b limit j) || mulP c limit j) : Nat) : Int) = limit.fdiv a + limit.fdiv b + limit.fdiv c - (limit.fdiv ((Int.lcm a b : Nat) : Int) + limit.fdiv ((Int.lcm a c : Nat) : Int) + limit.fdiv ((Int.lcm b c : Nat) : Int)) + limit.fdiv ((Int.lcm ((Int.lcm a b : Nat) : Int) c : Nat) : Int) := by
  rw [← cnt_mulP ha h0 h1, ← cnt_mulP hb h0 h1, ← cnt_mulP hc h0 h1, ← cnt_two ha hb h0 h1, ← cnt_two ha hc h0 h1, ← cnt_two hb hc h0 h1, ← cnt_three ha hb hc h0 h1]
  exact cntL_some _ _ _ _
theorem law_odd {a b c limit : Int} (ha : 0 < a) (hb : 0 < b) (hc : 0 < c) (h0 : 0 ≤ limit) (h1 : limit ≤ 150) :
    ((cnt (fun j => (mulP a limit j ^^ mulP b limit j) ^^ mulP c limit j) : Nat) : Int) = limit.fdiv a + limit.fdiv b + limit.fdiv c - 2 * (limit.fdiv ((Int.lcm a b : Nat) : Int) + limit.fdiv ((Int.lcm a c : Nat) : Int) + limit.fdiv ((Int.lcm b c : Nat) : Int)) + 4 * limit.fdiv ((Int.lcm ((Int.lcm a b : Nat) : Int) c : Nat) : Int) := by
  rw [← cnt_mulP ha h0 h1, ← cnt_mulP hb h0 h1, ← cnt_mulP hc h0 h1, ← cnt_two ha hb h0 h1, ← cnt_two ha hc h0 h1, ← cnt_two hb hc h0 h1, ← cnt_three ha hb hc h0 h1]
  exact cntL_odd _ _ _ _
theorem mulP_all {a b c limit : Int} : ∀ k, (mulP a limit k || mulP b limit k || mulP c limit k) = true → mulP 1 limit k = true := by
  intro k h
  simp only [mulP, Bool.or_eq_true, decide_eq_true_eq] at h ⊢
  omega
theorem law_none {a b c limit : Int} (h0 : 0 ≤ limit) (h1 : limit ≤ 150) :
    ((cnt (fun j => ((mulP 1 limit j && !mulP a limit j) && !mulP b limit j) && !mulP c limit j) : Nat) : Int) = limit - ((cnt (fun j => (mulP a limit j || mulP b limit j) || mulP c limit j) : Nat) : Int) := by
  have := cntL_none (mulP 1 limit) (mulP a limit) (mulP b limit) (mulP c limit) mulP_all (List.range 152)
  have e := cnt_mulP (n := 1) (by decide) h0 h1
  rw [show limit.fdiv 1 = limit by simp] at e
  have e' : (((List.range 152).countP fun (i : Nat) => mulP 1 limit (i : Int) : Nat) : Int) = limit := e
  rw [e'] at this
  exact this
theorem singles_ints {ys : List Value} {limit n0 n1 n2 : Int} (h : IntsAre ys (List.map (fun k' => if ¬k' = 0 then limit.fdiv k' else k') [n0, n1, n2])) (h0 : 2 ≤ n0) (h1 : 2 ≤ n1) (h2 : 2 ≤ n2) : IntsAre ys [limit.fdiv n0, limit.fdiv n1, limit.fdiv n2] := by
  simp only [List.map_cons, List.map_nil] at h
  rw [if_pos (by omega), if_pos (by omega), if_pos (by omega)] at h
  exact h
end Mine
end
section
open PySem PySem.W PyProof.Rows
set_option maxRecDepth 100000
namespace Mine
section
variable {prog : Program} {w : World} {A : Around} {E : Value → Shared → Prop} {s : Shared} {env : Env} {h₀ : Heap} {x : Str} {body : List Stmt} {Q : Flow → Shared → Prop}
theorem kst_set {σ : Type} {sa : Addr} {so : Obj} {m₀ : Str → Option Value} {led : Ledger} {Pb : Int → Bool} (Led : σ → Ledger) (ps : σ → List (Str × Value)) (Facts : σ → Prop) (stored : List Str) (P : List Int → σ → Prop) (c₀ : σ)
    (hh : A.handled = none) (F : Fr h₀ env.locals s.heap m₀) (N₀ : News h₀ env.locals s.heap led) (hs : (sa, so) ∈ led) (S : SetS true (ledOf w) so Pb) (hN : ∀ p ∈ Led c₀, p ∈ led) (off : ∀ p ∈ Led c₀, p.1 ≠ sa)
    (hf : Facts c₀) (hk : ∀ p ∈ ps c₀, m₀ p.1 = some p.2) (hp : P [] c₀)
    (turn : ∀ (c : σ) pre k t (u : Str → Option Value) h tk own, k ∉ pre → Pb k = true → OwnOff own ((Led c₀).map (·.1)) → Facts c → P pre c →
      Fr h₀ env.locals h (fun y => if y = x then some (.int k t) else kstB (fun z => if stored.contains z then u z else m₀ z) (ps c) y) → News h₀ env.locals h (Led c ++ own) →
      wpAny (model prog w) A (execs body env) (InvPostN h₀ env.locals (KstS Led ps Facts x stored m₀ P (pre ++ [k])) own ((Led c₀).map (·.1)) { s with heap := h, toks := tk } Q) E { s with heap := h, toks := tk })
    (done : ∀ (c : σ) ks (u : Str → Option Value) h tk, (∀ k, k ∈ ks ↔ Pb k = true) → Facts c → P ks c → Fr h₀ env.locals h (fun y => if y = x then u y else kstB (fun z => if stored.contains z then u z else m₀ z) (ps c) y) → News h₀ env.locals h (Led c) → Q .next { s with heap := h, toks := tk }) :
    wpAny (model prog w) A (pyIter (.ref sa)) (fun it s₂ => LoopAtV prog w A h₀ env x body Q E it s₂) E s := by
  have N : News h₀ env.locals s.heap (Led c₀) := fun p hp => N₀ p (hN p hp)
  obtain ⟨hex, es, ep, t, hd, hE, hfit, hl, hmk, hg⟩ := S
  have hg := hg rfl
  have hE' := hE.perm (orderOf_perm w sa es ep)
  have hosz : (orderOf w sa es ep).size = es.size := by rw [← Array.length_toList, (orderOf_perm w sa es ep).length_eq, Array.length_toList]
  have hlt := Heap.lt_size (N₀ _ hs).1
  have hLs := (N₀ _ hs).2.1
  have hnd : ((orderOf w sa es ep).toList.map key).Nodup := hE'.nodup
  refine iter_set (N₀ _ hs).1 hex hd hfit hg ?_
  have W := Walks.set (prog := prog) (w := w) (A := A) (I := s.heap.objs.size) (ep := ep) hh (Nat.ne_of_lt hlt) hd hfit hg rfl
  refine loop_invN (fun i m nx => KstS Led ps Facts x stored m₀ P (((orderOf w sa es ep).toList.map key).take i) m nx) W ?_ ?_ ?_ ?_ ⟨Heap.get?_push_size _ rfl, Heap.get?_push_of_some _ (N₀ _ hs).1⟩ (F.push _) (fun p hp => ⟨Heap.get?_push_of_some _ (N p hp).1, (N p hp).2⟩) ⟨c₀, rfl, hf, hk, fun _ _ _ _ => rfl, by simpa using hp⟩ ?_ ?_
  · intro hm
    rcases List.mem_cons.mp hm with e | e
    · exact absurd F.ns.lt (e ▸ Nat.lt_irrefl _)
    · exact hLs (List.mem_singleton.mp e).symm
  · intro b hb
    rw [List.mem_singleton.mp hb]
    exact next_is_new F
  · intro p hp hI
    exact absurd (Heap.lt_size (N p hp).1) ((List.mem_singleton.mp hI) ▸ Nat.lt_irrefl _)
  · intro p hp hI
    rcases List.mem_cons.mp hI with e | e
    · exact absurd (Heap.lt_size (N p hp).1) (e ▸ Nat.lt_irrefl _)
    · exact off p hp (List.mem_singleton.mp e)
  · rintro i v m₁ nx h tk own hi ⟨e, he, rfl⟩ _ hoff ⟨c, rfl, hf', h1, h2, hp'⟩ F₁ N₁
    have hmem : e ∈ (orderOf w sa es ep).toList := Array.mem_toList_iff.mpr (Array.mem_of_getElem? he)
    obtain ⟨t', ht'⟩ := int_of_ent hE' hmem
    have hk' : ((orderOf w sa es ep).toList.map key)[i]? = some (key e) := by
      rw [List.getElem?_map, Array.getElem?_toList, he]; rfl
    have hs' : ((orderOf w sa es ep).toList.map key).take (i + 1) = ((orderOf w sa es ep).toList.map key).take i ++ [key e] := by
      rw [List.take_add_one, hk']; rfl
    have hnot : key e ∉ ((orderOf w sa es ep).toList.map key).take i := by
      have h3 : (((orderOf w sa es ep).toList.map key).take (i + 1)).Nodup := hnd.sublist (List.take_sublist _ _)
      rw [hs', List.nodup_append] at h3
      intro hin
      exact h3.2.2 _ hin _ (List.mem_singleton.mpr rfl) rfl
    rw [ht'] at F₁
    rw [hs']
    exact turn c _ _ t' m₁ h tk own hnot (hE'.at hmem) hoff hf' hp' (kst_fr h1 h2 F₁) N₁
  · rintro m₁ nx h tk ⟨c, rfl, hf', h1, h2, hp'⟩ F₁ N₁
    have hl2 : ((orderOf w sa es ep).toList.map key).take es.size = (orderOf w sa es ep).toList.map key := List.take_of_length_le (by rw [List.length_map, Array.length_toList, hosz]; exact Nat.le_refl _)
    rw [hl2] at hp'
    exact done c _ m₁ h tk (fun k => (hE'.mem k).symm) hf' hp' (kst_frOut h1 h2 F₁) N₁
end
def WordsOf (pre : List Int) (nw : Nat) (ws : List Int) : Prop :=
  ws.length = nw ∧ ∀ i : Nat, i < nw → 0 ≤ ws.getD i 0 ∧ ∀ j : Nat, (ws.getD i 0).toNat.testBit j = (decide (j < 64) && decide (((64 * i + j : Nat) : Int) ∈ pre))
theorem bitOr_nat {x y : Int} (hx : 0 ≤ x) (hy : 0 ≤ y) : Builtin.bitOr x y = ((x.toNat ||| y.toNat : Nat) : Int) := by
  have e : ∀ z : Int, Builtin.bitNot (Builtin.bitNot z) = z := fun z => by unfold Builtin.bitNot; omega
  have n : ∀ z : Int, 0 ≤ z → ¬ 0 ≤ Builtin.bitNot z := fun z hz => by unfold Builtin.bitNot; omega
  show Builtin.bitNot (Builtin.bitAnd (Builtin.bitNot x) (Builtin.bitNot y)) = _
  rw [bitAnd_nn (n x hx) (n y hy), e, e, e]
theorem words_start (nw : Nat) : WordsOf [] nw ((List.replicate nw [(0 : Int)]).flatten) := by
  have e : (List.replicate nw [(0 : Int)]).flatten = List.replicate nw 0 := by
    induction nw with
    | zero => rfl
    | succ n ih => rw [List.replicate_succ, List.flatten_cons, ih, List.replicate_succ]; rfl
  refine ⟨by rw [e]; simp, fun i hi => ?_⟩
  rw [e, List.getD_eq_getElem?_getD, List.getElem?_replicate, if_pos hi]
  simp
theorem words_turn {pre ws : List Int} {nw : Nat} {k : Int} (h : WordsOf pre nw ws) (h0 : 0 ≤ k) (h1 : k < 64 * nw) :
    WordsOf (pre ++ [k]) nw (ws.set (k.fdiv 64).toNat (Builtin.bitOr (ws.getD (k.fdiv 64).toNat 0) (1 * 2 ^ (k.fmod 64).toNat))) := by
  obtain ⟨n, rfl⟩ := Int.eq_ofNat_of_zero_le h0
  have e1 : ((n : Int).fdiv 64).toNat = n / 64 := by
    rw [Int.fdiv_eq_ediv_of_nonneg _ (by omega)]; omega
  have e2 : ((n : Int).fmod 64).toNat = n % 64 := by
    rw [Int.fmod_eq_emod_of_nonneg _ (by omega)]; omega
  rw [e1, e2]
  have hq : n / 64 < nw := by omega
  obtain ⟨hl, hw⟩ := h
  have hp2 : (1 * 2 ^ (n % 64) : Int) = ((2 ^ (n % 64) : Nat) : Int) := by rw [Int.one_mul]; norm_cast
  refine ⟨by rw [List.length_set]; exact hl, fun i hi => ?_⟩
  by_cases he : n / 64 = i
  · subst he
    have hg : (ws.set (n / 64) (Builtin.bitOr (ws.getD (n / 64) 0) (1 * 2 ^ (n % 64)))).getD (n / 64) 0 = Builtin.bitOr (ws.getD (n / 64) 0) (1 * 2 ^ (n % 64)) := by
      rw [List.getD_eq_getElem?_getD, List.getElem?_set_self (by omega)]; rfl
    rw [hg, hp2, bitOr_nat (hw _ hq).1 (Int.natCast_nonneg _)]
    refine ⟨by omega, fun j => ?_⟩
    rw [Int.toNat_natCast, Nat.testBit_or, (hw _ hq).2 j, Int.toNat_natCast, Nat.testBit_two_pow, Bool.eq_iff_iff]
    simp only [Bool.or_eq_true, Bool.and_eq_true, decide_eq_true_eq, List.mem_append, List.mem_singleton]
    constructor
    · rintro (⟨a, b⟩ | a)
      · exact ⟨a, .inl b⟩
      · exact ⟨by omega, .inr (by omega)⟩
    · rintro ⟨a, b | b⟩
      · exact .inl ⟨a, b⟩
      · exact .inr (by omega)
  · have hg : (ws.set (n / 64) (Builtin.bitOr (ws.getD (n / 64) 0) (1 * 2 ^ (n % 64)))).getD i 0 = ws.getD i 0 := by
      rw [List.getD_eq_getElem?_getD, List.getElem?_set_ne he, ← List.getD_eq_getElem?_getD]
    rw [hg]
    refine ⟨(hw i hi).1, fun j => ?_⟩
    rw [(hw i hi).2 j, Bool.eq_iff_iff]
    simp only [Bool.and_eq_true, decide_eq_true_eq, List.mem_append, List.mem_singleton]
    constructor
    · rintro ⟨a, b⟩; exact ⟨a, .inl b⟩
    · rintro ⟨a, b | b⟩
      · exact ⟨a, b⟩
      · exfalso; omega
end Mine
namespace Mine
section
variable {prog : Program} {w : World} {A : Around} {E : Value → Shared → Prop} {s : Shared} {env : Env} {h₀ : Heap} {body : List Stmt} {Q : Flow → Shared → Prop}
theorem fdiv64 {k : Int} (h : 0 ≤ k) : 0 ≤ k.fdiv 64 ∧ 64 * k.fdiv 64 ≤ k ∧ 0 ≤ k.fmod 64 ∧ k.fmod 64 < 64 := by
  rw [Int.fdiv_eq_ediv_of_nonneg _ (by omega), Int.fmod_eq_emod_of_nonneg _ (by omega)]
  omega
theorem bits_room {Pb : Int → Bool} {mx : Int} (h2 : ∀ j, Pb j = true → j ≤ mx) (hP : ∀ k, Pb k = true → 0 ≤ k ∧ k ≤ 150) : ∀ k, Pb k = true → 0 ≤ k ∧ k < 64 * ((((mx + 1 + 63).fdiv 64).toNat : Nat) : Int) := fun k hk => by
  have a := hP k hk
  have b := h2 k hk
  rw [Int.fdiv_eq_ediv_of_nonneg _ (by omega)]
  omega
theorem off_app {d : Addr} {news own : Ledger} {adr : List Addr} (h : AllLt d news) (ho : OwnOff own (d :: adr)) : ∀ p ∈ news ++ own, p.1 ≠ d := fun p hp => by
  rcases List.mem_append.mp hp with hp | hp
  · exact Nat.ne_of_lt (kst_ltOf h p hp)
  · exact ho p hp d (.head _)
def BitsEnd (h₀ : Heap) (L : Addr) (m₀ : Str → Option Value) (wl : Addr) (n₀ : Nat) (rest : Ledger) (nw : Nat) (pre : List Int) (s₁ : Shared) (f : Flow) (s₂ : Shared) : Prop :=
  f = .next ∧ ∃ vs ws h' tk' m', s₂ = { s₁ with heap := h', toks := tk' } ∧ Fr h₀ L h' m' ∧ (∀ z, z ≠ Str.ofString "bit" → z ≠ Str.ofString "word_idx" → z ≠ Str.ofString "bit_idx" → m' z = m₀ z) ∧ News h₀ L h' ((wl, W.listOf vs.toArray n₀) :: rest) ∧ IntsAre vs ws ∧ WordsOf pre nw ws
theorem BitsEnd.intro {L : Addr} {m₀ m' : Str → Option Value} {wl : Addr} {n₀ : Nat} {rest : Ledger} {nw : Nat} {pre : List Int} {s₁ : Shared} {vs : List Value} {ws : List Int} {h' : Heap} {tk' : Nat} (F : Fr h₀ L h' m') (N : News h₀ L h' ((wl, W.listOf vs.toArray n₀) :: rest)) (hi : IntsAre vs ws) (hW : WordsOf pre nw ws)
    (hm : ∀ z, z ≠ Str.ofString "bit" → z ≠ Str.ofString "word_idx" → z ≠ Str.ofString "bit_idx" → m' z = m₀ z) : BitsEnd h₀ L m₀ wl n₀ rest nw pre s₁ .next { s₁ with heap := h', toks := tk' } :=
  ⟨rfl, vs, ws, h', tk', m', rfl, F, hm, N, hi, hW⟩
theorem bits_frame {m₀ m₁ : Str → Option Value} (h2 : ∀ z, z ≠ Str.ofString "bit" → z ≠ Str.ofString "word_idx" → z ≠ Str.ofString "bit_idx" → m₁ z = m₀ z) (v : Option Value) :
    (fun y => if y = Str.ofString "bit" then v else m₁ y) = fun y => if y = Str.ofString "bit" then v else if y = Str.ofString "word_idx" then m₁ y else if y = Str.ofString "bit_idx" then m₁ y else m₀ y := by
  funext y
  by_cases a : y = Str.ofString "bit"
  · rw [if_pos a, if_pos a]
  · rw [if_neg a, if_neg a]
    by_cases b : y = Str.ofString "word_idx"
    · rw [if_pos b]
    · rw [if_neg b]
      by_cases c : y = Str.ofString "bit_idx"
      · rw [if_pos c]
      · rw [if_neg c]; exact h2 y a b c
theorem bits_loop {wl sa : Addr} {so : Obj} {led news : Ledger} {vs₀ : List Value} {ws₀ : List Int} {n₀ nw : Nat} {m₀ : Str → Option Value} {Pb : Int → Bool} (hh : A.handled = none) (F : Fr h₀ env.locals s.heap m₀) (N₀ : News h₀ env.locals s.heap led) (hs : (sa, so) ∈ led) (S : SetS true (ledOf w) so Pb)
    (hw : (wl, W.listOf vs₀.toArray n₀) ∈ led) (hsub : ∀ p ∈ news, p ∈ led) (off : AllLt sa news) (off2 : AllLt wl news) (hne : @Ne Nat wl sa) (hi : IntsAre vs₀ ws₀) (hW : WordsOf [] nw ws₀) (hb : ∀ k, Pb k = true → 0 ≤ k ∧ k < 64 * (nw : Int))
    (turn : ∀ vs ws pre k t (u : Str → Option Value) h tk own, Pb k = true → 0 ≤ k → k < 64 * (nw : Int) → 0 ≤ k.fdiv 64 → k.fdiv 64 < (ws.length : Int) → 0 ≤ k.fmod 64 → k.fmod 64 < 64 → (∀ p ∈ news ++ own, p.1 ≠ wl) → IntsAre vs ws → WordsOf pre nw ws →
      Fr h₀ env.locals h (fun y => if y = Str.ofString "bit" then some (.int k t) else if y = Str.ofString "word_idx" then u y else if y = Str.ofString "bit_idx" then u y else m₀ y) → News h₀ env.locals h ((wl, W.listOf vs.toArray n₀) :: (news ++ own)) →
      wpAny (model prog w) A (execs body env) (BitsEnd h₀ env.locals m₀ wl n₀ (news ++ own) nw (pre ++ [k]) { s with heap := h, toks := tk }) E { s with heap := h, toks := tk })
    (done : ∀ vs ws ks (u : Str → Option Value) h tk, (∀ k, k ∈ ks ↔ Pb k = true) → IntsAre vs ws → WordsOf ks nw ws → Fr h₀ env.locals h (fun y => if y = Str.ofString "bit" then u y else if y = Str.ofString "word_idx" then u y else if y = Str.ofString "bit_idx" then u y else m₀ y) →
      News h₀ env.locals h ((wl, W.listOf vs.toArray n₀) :: news) → Q .next { s with heap := h, toks := tk }) :
    wpAny (model prog w) A (pyIter (.ref sa)) (fun it s₂ => LoopAtV prog w A h₀ env (Str.ofString "bit") body Q E it s₂) E s := by
  have key : ∀ z : Str, ([Str.ofString "word_idx", Str.ofString "bit_idx"] : List Str).contains z = false ↔ z ≠ Str.ofString "word_idx" ∧ z ≠ Str.ofString "bit_idx" := by
    intro z
    simp [List.contains_cons, beq_eq_false_iff_ne]
  have fr : ∀ (u : Str → Option Value) (v : Option Value), (fun y => if y = Str.ofString "bit" then v else kstB (fun z => if ([Str.ofString "word_idx", Str.ofString "bit_idx"] : List Str).contains z then u z else m₀ z) [] y) = fun y => if y = Str.ofString "bit" then v else if y = Str.ofString "word_idx" then u y else if y = Str.ofString "bit_idx" then u y else m₀ y := by
    intro u v
    funext y
    show (if y = Str.ofString "bit" then v else (if ([Str.ofString "word_idx", Str.ofString "bit_idx"] : List Str).contains y = true then u y else m₀ y)) = _
    by_cases a : y = Str.ofString "bit"
    · rw [if_pos a, if_pos a]
    · rw [if_neg a, if_neg a]
      cases hc : ([Str.ofString "word_idx", Str.ofString "bit_idx"] : List Str).contains y with
      | false =>
        obtain ⟨b, c⟩ := (key y).mp hc
        rw [if_neg b, if_neg c]; rfl
      | true =>
        by_cases b : y = Str.ofString "word_idx"
        · rw [if_pos b]; rfl
        · by_cases c : y = Str.ofString "bit_idx"
          · rw [if_neg b, if_pos c]; rfl
          · rw [(key y).mpr ⟨b, c⟩] at hc; cases hc
  refine kst_set (σ := List Value × List Int) (fun c => (wl, W.listOf c.1.toArray n₀) :: news) (fun _ => []) (fun c => IntsAre c.1 c.2) [Str.ofString "word_idx", Str.ofString "bit_idx"] (fun pre c => WordsOf pre nw c.2) (vs₀, ws₀) hh F N₀ hs S
    (fun p hp => by
      rcases List.mem_cons.mp hp with rfl | hp
      · exact hw
      · exact hsub p hp)
    (fun p hp => by
      rcases List.mem_cons.mp hp with rfl | hp
      · exact hne
      · exact Nat.ne_of_lt (kst_ltOf off p hp)) hi (by simp) hW ?_ ?_
  · rintro ⟨vs, ws⟩ pre k t u h tk own _ hk hown hi' hW' F' N'
    rw [fr] at F'
    refine wpAny_mono (turn vs ws pre k t u h tk own hk (hb k hk).1 (hb k hk).2 (fdiv64 (hb k hk).1).1 (by rw [hW'.1]; have := (fdiv64 (hb k hk).1).2.1; have := (hb k hk).2; omega) (fdiv64 (hb k hk).1).2.2.1 (fdiv64 (hb k hk).1).2.2.2 (off_app off2 hown) hi' hW' F' N') (fun f s₂ hf => ?_) fun _ _ e => e
    obtain ⟨rfl, vs', ws', h', tk', m', rfl, F'', hm, N'', hi'', hW''⟩ := hf
    refine kst_end (vs', ws') F'' N'' ?_ ?_ rfl hi'' (by simp) (fun z h1 _ h3 => hm z h1 ((key z).mp h3).1 ((key z).mp h3).2) hW''
    · intro p hp
      rcases List.mem_cons.mp hp with rfl | hp
      · exact .head _
      · exact .tail _ (List.mem_append_left _ hp)
    · intro p hp
      exact .tail _ (List.mem_append_right _ hp)
  · rintro ⟨vs, ws⟩ ks u h tk hks hi' hW' F' N'
    have e : (fun y => if y = Str.ofString "bit" then u y else kstB (fun z => if ([Str.ofString "word_idx", Str.ofString "bit_idx"] : List Str).contains z then u z else m₀ z) [] y) = fun y => if y = Str.ofString "bit" then u y else if y = Str.ofString "word_idx" then u y else if y = Str.ofString "bit_idx" then u y else m₀ y := by
      funext y
      exact congrFun (fr u (u y)) y
    rw [e] at F'
    exact done vs ws ks u h tk hks hi' hW' F' N'
end
end Mine
end
section
open PySem PySem.W PyProof.Rows
set_option maxRecDepth 100000
set_option maxHeartbeats 8000000
namespace Mine
theorem newsList {h₀ : Heap} {L : Addr} {h : Heap} {led : Ledger} {a : Addr} {vs : List Value} {n : Nat} (N : News h₀ L h led) (hm : (a, W.listOf vs.toArray n) ∈ led) : h.IsList a vs.toArray := ⟨_, (N _ hm).1, rfl, _, rfl⟩
def CW (ws : List Int) (z n : Int) : Prop := (∀ i : Int, 0 ≤ i → i < z → ws.getD i.toNat 0 = 0) ∧ (∀ i : Int, z ≤ i → i < ws.length → 0 < ws.getD i.toNat 0 ∧ ws.getD i.toNat 0 < 18446744073709551615)
theorem CW.ne0 {ws : List Int} {z n i : Int} (C : CW ws z n) (h1 : z ≤ i) (h2 : i < ws.length) : ¬ ws.getD i.toNat 0 = 0 := by have := C.2 i h1 h2; omega
theorem CW.neM {ws : List Int} {z n i : Int} (C : CW ws z n) (h1 : z ≤ i) (h2 : i < ws.length) : ¬ ws.getD i.toNat 0 = 18446744073709551615 := by have := C.2 i h1 h2; omega
theorem cw_turn1 {ws : List Int} {z n i r : Int} (C : CW ws z n) (h0 : ws.getD (Int.toNat 0) 0 = 0) (a : 0 ≤ i) (b : i ≤ z) (c : r = i) (h1 : i < ws.length) (h2 : ws.getD i.toNat 0 = ws.getD (Int.toNat 0) 0) : 0 ≤ i + 1 ∧ i + 1 ≤ z ∧ r + 1 = i + 1 := by
  have : i ≠ z := fun e => by
    have := C.2 i (by omega) h1
    omega
  omega
theorem cw_start {ws : List Int} {z n i : Int} (C : CW ws z n) (zn : z < n) (h0 : ws.getD (Int.toNat 0) 0 = 0) (a : 0 ≤ i) (b : i ≤ z) (c : (0 : Int) = 0) (h2 : ¬ ws.getD i.toNat 0 = ws.getD (Int.toNat 0) 0) :
    z ≤ i ∧ i ≤ n ∧ ((([] : List Int).length : Nat) : Int) = i - z ∧ [] = (ws.drop z.toNat).take (i - z).toNat := by
  have e : i = z := by
    apply Classical.byContradiction
    intro hne
    have := C.1 i a (by omega)
    omega
  subst e
  refine ⟨by omega, by omega, by simp, by simp⟩
theorem cw_start0 {ws : List Int} {z n : Int} (C : CW ws z n) (z0 : 0 ≤ z) (zn : z < n) (h0 : ¬ ws.getD (Int.toNat 0) 0 = 0) : z ≤ 0 ∧ 0 ≤ n ∧ ((([] : List Int).length : Nat) : Int) = 0 - z ∧ [] = (ws.drop z.toNat).take (0 - z).toNat := by
  have e : z = 0 := by
    apply Classical.byContradiction
    intro hne
    exact h0 (C.1 0 (by omega) (by omega))
  subst e
  refine ⟨by omega, by omega, by simp, by simp⟩
theorem cw_turn2 {ws : List Int} {z n i : Int} {lits : List Int} (z0 : 0 ≤ z) (hlen : (ws.length : Int) = n) (a : z ≤ i) (b : i ≤ n) (c : (lits.length : Int) = i - z) (d : lits = (ws.drop z.toNat).take (i - z).toNat) (h1 : i < ws.length) :
    z ≤ i + 1 ∧ i + 1 ≤ n ∧ ((lits ++ [ws.getD i.toNat 0]).length : Int) = i + 1 - z ∧ lits ++ [ws.getD i.toNat 0] = (ws.drop z.toNat).take (i + 1 - z).toNat := by
  refine ⟨by omega, by omega, by rw [List.length_append, List.length_singleton]; omega, ?_⟩
  have e : (i + 1 - z).toNat = (i - z).toNat + 1 := by omega
  rw [e, d, List.take_add_one]
  congr 1
  rw [List.getElem?_drop, show z.toNat + (i - z).toNat = i.toNat by omega, List.getD_eq_getElem?_getD, List.getElem?_eq_getElem (by omega)]
  rfl
theorem cw_done {ws : List Int} {z n i : Int} {lits : List Int} (hlen : (ws.length : Int) = n) (a : z ≤ i) (b : i ≤ n) (c : (lits.length : Int) = i - z) (d : lits = (ws.drop z.toNat).take (i - z).toNat) (h1 : ¬ i < ws.length) : lits = ws.drop z.toNat ∧ (lits.length : Int) = n - z := by
  have e : i = n := by omega
  subst e
  refine ⟨?_, by omega⟩
  rw [d, List.take_of_length_le]
  rw [List.length_drop]; omega
local macro_rules | `(tactic| walk_at "wh_dec") => `(tactic| ((try simp) <;> omega))
local macro_rules | `(tactic| walk_at "cw_p") => `(tactic| first
  | omega
  | (refine cw_turn1 (by assumption) (by assumption) (by omega) (by omega) (by omega) (by omega) (by assumption))
  | (refine cw_start (by assumption) (by assumption) (by assumption) (by omega) (by omega) rfl (by assumption))
  | (refine cw_start0 (by assumption) (by assumption) (by assumption) (by assumption))
  | (refine cw_turn2 (by assumption) (by assumption) (by omega) (by omega) (by omega) (by first | assumption | rfl) (by omega)))
theorem ite_beq_neg {x y : Int} {P Q : Prop} (h : ¬ x = y) (q : Q) : if (x == y) = true then P else Q := by rw [if_neg (by simp [h])]; exact q
theorem ite_beq_pos {x y : Int} {P Q : Prop} (h : x = y) (p : P) : if (x == y) = true then P else Q := by rw [if_pos (by simp [h])]; exact p
theorem ite_bne_neg {x y : Int} {P Q : Prop} (h : x = y) (q : Q) : if (x != y) = true then P else Q := by rw [if_neg (by simp [h])]; exact q
theorem ite_bne_pos {x y : Int} {P Q : Prop} (h : ¬ x = y) (p : P) : if (x != y) = true then P else Q := by rw [if_pos (by simp [h])]; exact p
theorem ext_K {prog : Program} {w : World} {A : Around} {E : Value → Shared → Prop} {s : Shared} {h₀ : Heap} {L D b : Addr} {m : Str → Option Value} {led led' : Ledger} {its : Array Value} {vs : List Value} {ls : List Int} {n n2 : Nat} {Q : Value → Shared → Prop} (F : Fr h₀ L s.heap m) (N : News h₀ L s.heap led) (hb : (b, W.listOf vs.toArray n2) ∈ led) (hi : IntsAre vs ls) (h0 : 0 < (ls.length : Int)) (h1 : (ls.length : Int) ≤ 3) (hz : its.size ≤ 3)
    (U : Upd D (W.listOf its n) (W.listOf (its.toList ++ vs).toArray (n + 1)) led led') (h : ∀ h', Fr h₀ L h' m → News h₀ L h' led' → Q .none { s with heap := h' }) : wpAny (model prog w) A (call (.builtin "list.extend") [.ref D, .ref b]) Q E s := by
  have hl : vs.length = ls.length := hi.length
  have hs : its.size + vs.toArray.size ≤ sizeLine := by
    have e1 : vs.toArray.size = vs.length := by simp
    rw [sizeLine_eq]; omega
  have hs2 : its.size ≤ sizeLine := Nat.le_trans (Nat.le_add_right _ _) hs
  exact kl_extend F N hb rfl (by show vs.length ≠ 0; omega) U (extend_door hs) (by rw [Array.length_toList]; exact hs2) (Nat.le_succ_of_le hs) h
section
variable {prog : Program} {w : World} {A : Around} {E : Value → Shared → Prop} {s : Shared} {Q : Value → Shared → Prop} {a : Int} {t u : Tok}
theorem shl33 (h0 : 0 ≤ a) (h1 : a ≤ 1000) (h : Q (.int (a * 8589934592) s.toks) { s with toks := s.toks + 1 }) : wpAny (model prog w) A (binaryOp .LShift (.int a t) (.int 33 u)) Q E s := by
  refine lshift_int_small (by decide) (by decide) (by omega) ?_
  have e : (2 : Int) ^ (33 : Int).toNat = 8589934592 := by decide +kernel
  rw [e]; exact h
theorem shl1 (h0 : 0 ≤ a) (h1 : a ≤ 1000) (h : Q (.int (a * 2) s.toks) { s with toks := s.toks + 1 }) : wpAny (model prog w) A (binaryOp .LShift (.int a t) (.int 1 u)) Q E s := by
  refine lshift_int_small (by decide) (by decide) (by omega) ?_
  have e : (2 : Int) ^ (1 : Int).toNat = 2 := by decide +kernel
  rw [e]; exact h
theorem rlw_or {l r : Int} (h0 : 0 ≤ l) (h1 : l ≤ 3) (h2 : 0 ≤ r) (h3 : r ≤ 3) : Builtin.bitOr (Builtin.bitOr (l * 8589934592) (r * 2)) 0 = 8589934592 * l + 2 * r := by
  rcases (by omega : l = 0 ∨ l = 1 ∨ l = 2 ∨ l = 3) with rfl | rfl | rfl | rfl <;> rcases (by omega : r = 0 ∨ r = 1 ∨ r = 2 ∨ r = 3) with rfl | rfl | rfl | rfl <;> decide +kernel
end
theorem gen_toks1 {α : Type} {M : Model} {A : Around} {t : Sem α} {Q : α → Shared → Prop} {E : Value → Shared → Prop} {hp : Heap} {g d o} {x : Nat} (h : ∀ tk, wpAny M A t Q E ⟨hp, g, d, tk, o⟩) : wpAny M A t Q E ⟨hp, g, d, x + 1, o⟩ := h _
local macro_rules | `(tactic| walk_at "execs cons") => `(tactic| (k_here; (with_reducible refine gen_toks1 ?_); intro tk))
local macro_rules | `(tactic| walk_at "execs nil") => `(tactic| (k_here; (with_reducible refine gen_toks1 ?_); intro tk))
theorem comp_end {ws : List Int} {z n i run : Int} {lits : List Int} {vs : List Value} {t : Tok} (z0 : 0 ≤ z) (zn : z < n) (hn : n ≤ 3) (hlen : (ws.length : Int) = n) (hr : run = z) (hv : IntsAre vs lits) (a : z ≤ i) (b : i ≤ n) (c : (lits.length : Int) = i - z) (d : lits = (ws.drop z.toNat).take (i - z).toNat) (h1 : ¬ i < ws.length) :
    IntsAre (.int (Builtin.bitOr (Builtin.bitOr ((lits.length : Int) * 8589934592) (run * 2)) 0) t :: vs) ((8589934592 * (n - z) + 2 * z) :: ws.drop z.toNat) := by
  obtain ⟨e1, e2⟩ := cw_done hlen a b c d h1
  rw [rlw_or (by omega) (by omega) (by omega) (by omega), hr, e2, ← e1]
  exact .cons _ _ hv
theorem comp_run {ws : List Int} {z n i run : Int} (C : CW ws z n) (h0 : ws.getD (Int.toNat 0) 0 = 0) (a : 0 ≤ i) (b : i ≤ z) (c : run = i) (h2 : ¬ ws.getD i.toNat 0 = ws.getD (Int.toNat 0) 0) : run = z := by
  apply Classical.byContradiction
  intro hne
  have := C.1 i a (by omega)
  omega
theorem comp_zero {ws : List Int} {z n : Int} (C : CW ws z n) (z0 : 0 ≤ z) (h0 : ¬ ws.getD (Int.toNat 0) 0 = 0) : (0 : Int) = z := by
  apply Classical.byContradiction
  intro hne
  exact h0 (C.1 0 (by omega) (by omega))
local macro_rules | `(tactic| walk_at "call type:set nil nil") => `(tactic| (k_here; k_dflt (refine set_new (by k_asm) (by k_asm) ?_); intro d' o' h' F' N' l1 hs'; (try k_lt l1)))
local macro_rules | `(tactic| k_room) => `(tactic| ktr_room)
local macro_rules | `(tactic| k_mem) => `(tactic| ((fail_if_success (refine' List.Mem.tail _ ?_)); assumption))
local macro_rules | `(tactic| k_units) => `(tactic| ktr_units)
local macro_rules | `(tactic| k_enter) => `(tactic| first
  | (refine' code_def ?k1 ?k2 ?k3 ?k4 ?k5 ?kA ?kF ?kK ?k6 ?k7 ?k8 ?k9 ?kB ?_ ?c2 ?c3 ?c4 ?c5; (case kA => exact rfl); (case kF => exact rfl); (case kK => first | assumption | exact rfl); (case k1 => k_asm); (case k2 => k_asm); (case k3 => k_asm); (case k4 => k_asm); (case k5 => k_asm); (case k6 => k_is); (case k7 => k_is); (case k8 => ktr_room); (case k9 => first | exact BindsTo.of_eq rfl | exact binds_K (by k_in) rfl (by k_is) rfl rfl rfl); (case c5 => decide); (case kB => exact locs rfl); (case c2 => exact rfl); (case c3 => exact rfl); (case c4 => exact rfl); k_whole; intro g' L' h' FG' F' N' B' X' T'; (try dsimp only); (try k_lift B'); (try k_fold))
  | (refine' code_defC ?k1 ?k2 ?k3 ?k4 ?k5 ?kA ?kF ?kK ?k6 ?k7 ?k8 ?k9 ?kB ?kD ?_ ?c2 ?c3 ?c4; (case kA => exact rfl); (case kF => exact rfl); (case kK => first | assumption | exact rfl); (case k1 => k_asm); (case k2 => k_asm); (case k3 => k_asm); (case k4 => k_asm); (case k5 => k_asm); (case k6 => k_is); (case k7 => k_is); (case k8 => ktr_room); (case k9 => first | exact BindsTo.of_eq rfl | exact binds_K (by k_in) rfl (by k_is) rfl rfl rfl); (case kB => exact rfl); (case kD => decide +kernel); (case c2 => exact rfl); (case c3 => exact rfl); (case c4 => exact rfl); k_whole; intro g' L' h' tk' cells' FG' F' N' Y' B' X' T' l1; (try k_lt l1); k_cells Y'; (try simp only [List.cons_append, List.nil_append] at N'); (try dsimp only); (try k_lift B'); (try k_fold)))
local macro_rules | `(tactic| walk_at "exec While Compare cons nil") => `(tactic| (k_here; k_dflt (refine whl_start 2 ?_)))
local macro_rules | `(tactic| walk_at "WhlIf") => `(tactic| (first | (refine WhlIf.no (decide_eq_false (by assumption)) ?_) | (refine WhlIf.yes (by walk_at "wh_dec") ?_) | (refine WhlIf.no (by walk_at "wh_dec") ?_)))
local macro_rules | `(tactic| walk_at "ite") => `(tactic| (first | (refine ite_bne_pos (CW.ne0 (by assumption) (by omega) (by omega)) ?_) | (refine ite_bne_pos (CW.neM (by assumption) (by omega) (by omega)) ?_) | (refine ite_beq_neg (by omega) ?_) | (refine ite_beq_pos (by omega) ?_)))
local macro_rules | `(tactic| walk_at "call builtin:len") => `(tactic| (k_here; (with_reducible show wpAny _ _ (call (Value.builtin "len") [Value.ref _]) _ _ _); (with_unfolding_all refine' len_ints_fit (newsList ?k0 ?k1) ?k2 ?k3 ?_; (case k0 => k_asm); (case k1 => k_mem); (case k2 => with_reducible assumption); (case k3 => omega); k_whole)))
local macro_rules | `(tactic| walk_at "subscriptTail") => `(tactic| (k_here; (with_reducible show wpAny _ _ (subscriptTail _ _ (Value.ref _) (Value.int _ _)) _ _ _); (with_unfolding_all refine' item_anyK (newsList ?k0 ?k1) ?k2 ?k3 ?k4 ?k5 ?_ ?k6; (case k0 => k_asm); (case k1 => k_mem); (case k2 => with_reducible assumption); (case k3 => omega); (case k4 => omega); (case k5 => omega); (case k6 => with_unfolding_all rfl); k_whole); intro _))
local macro_rules | `(tactic| walk_at "call builtin:list.extend") => `(tactic| (k_here; k_dflt (refine' ext_K ?F ?N ?b ?i ?h0 ?h1 ?z ?U ?_; (case F => k_asm); (case N => k_asm); (case b => k_mem); (case i => assumption); (case h0 => omega); (case h1 => omega); (case U => k_upd); (case z => (show 1 ≤ 3; decide)); k_whole); intro h' F' N'))
local macro_rules | `(tactic| walk_at "binaryOp LShift int int") => `(tactic| (k_here; (first | (with_reducible refine shl33 ?h0 ?h1 ?_) | (with_reducible refine shl1 ?h0 ?h1 ?_)); (case h0 => omega); (case h1 => omega)))
local macro_rules | `(tactic| kst_p) => `(tactic| ((try dsimp only); walk_at "cw_p"))
theorem bm_comp (w : World) (mean : ExcName → Option Value) (mg mb : Str → Option Value) (dp un : Nat) (gd : Option (List Code)) (cn : Str) (cs : Scope) (a : Addr) (ccd : Value) (cl : List (Str × Addr)) (outer : List Env) (A₀ : Around) (base h₀ : Heap) (L : Addr) (m : Str → Option Value) (news : Ledger) (s : Shared) (Q E : Value → Shared → Prop)
    (B : Below A₀ base outer h₀) (F : Fr h₀ L s.heap m) (X : (Mine.hd.heap_39 w.params).In h₀) (N : News h₀ L s.heap news) (T : Top Mine.hd.view_39 (looseW Mine.hd.view_39 [Str.ofString "struct", Str.ofString "BytesIO"]) mean mg mb h₀) (hk : cs.kind = .function) (hd : dp + 8 < recursionLimit) (hu : un + 100 < cLine)
    (wl : Addr) (vs : List Value) (ws : List Int) (z n : Int) (hn : n ≤ 3) (nl : Nat) (hw : (wl, W.listOf vs.toArray nl) ∈ news) (hv : IntsAre vs ws) (C : CW ws z n) (z0 : 0 ≤ z) (zn : z < n) (hlen : (ws.length : Int) = n)
    (hlo : 0 ≤ ws.getD (Int.toNat 0) 0) (hhi : ws.getD (Int.toNat 0) 0 < 18446744073709551615)
    (hret : ∀ (D : Addr) (ys : List Value) (ny : Nat) (h' : Heap) (tk' : Nat), IntsAre ys ((8589934592 * (n - z) + 2 * z) :: ws.drop z.toNat) → Fr h₀ L h' m → News h₀ L h' ((D, W.listOf ys.toArray ny) :: news) → AllLt D news → Q (.ref D) { s with heap := h', toks := tk' }) :
    wpAny (model Challenge.rw_bh0020_01.row.prog w) (ktrTop dp un gd cn cs L a ccd cl outer) (call (.ref 92) [.ref wl]) Q E s := by
  w_top off
  k_with_none
  have hfill : Challenge.rw_bh0020_01 = Challenge.rw_bh0020_01 ∧ (Mine.hd.heap_39 w.params).In h₀ := ⟨rfl, X⟩
  revert hfill
  k_fill
  intro hfill
  clear hfill
  k_with "exec While BoolOp cons nil" => (first | (k_while_given [] (fun script run i => 0 ≤ i ∧ i ≤ z ∧ run = i) (fun script run i => (n - i).toNat) "run_length" "i") | (k_while_given [] (fun script lits i => z ≤ i ∧ i ≤ n ∧ (lits.length : Int) = i - z ∧ lits = (ws.drop z.toNat).take (i - z).toNat) (fun script lits i => (n - i).toNat) "literals" "i"))
  k_steps
  all_goals refine hret _ _ _ _ _ (comp_end z0 zn hn hlen ?_ (by assumption) (by assumption) (by assumption) (by assumption) (by assumption) (by assumption)) (by assumption) (cb_drop (by assumption) (fun p hp => .tail _ hp)) (allLt_of (by assumption))
  all_goals first
    | exact comp_zero C z0 (by assumption)
    | exact comp_run C (by assumption) (by assumption) (by assumption) (by assumption) (by assumption)
end Mine
end
section
open PySem PySem.W PyProof.Rows
set_option maxRecDepth 100000
namespace Mine
def big (k : Nat) (x : Int) : List Int := (KTBy.little k x).reverse
theorem big_len (k : Nat) (x : Int) : (big k x).length = k := by unfold big; rw [List.length_reverse, KTBy.little_length]
abbrev bioDict (w : World) (t1 t2 : Tok) (b : Array UInt8) (tb : Tok) (p : Int) (tp : Tok) : Obj :=
  dictOf [⟨PyData.keyHash w.params (Str.ofString "data"), .str (Str.ofString "data") t1, .bytes b tb⟩, ⟨PyData.keyHash w.params (Str.ofString "place"), .str (Str.ofString "place") t2, .int p tp⟩] 2
theorem noI_bytes : typeLookup (.type "bytes") (dunderI "add") = pure none := by rw [typeLookup_type, builtinLookup_eq_fast]; kernel_rfl
theorem bints_nil : KBw.bInts #[] = [] := rfl
section
variable {prog : Program} {w : World} {A : Around} {E : Value → Shared → Prop} {s : Shared}
theorem iadd_bytes {b c : Array UInt8} {t u : Tok} {ks ls : List Int} {Q : Value → Shared → Prop} (hb : KBw.bInts b = ks) (hc : KBw.bInts c = ls) (hsz : ks.length + ls.length ≤ 1000) (h : ∀ d t' k, KBw.bInts d = ks ++ ls → Q (.bytes d t') { s with toks := k }) :
    wpAny (model prog w) A (inplaceOp .Add (.bytes b t) (.bytes c u)) Q E s := by
  have hz : b.size + c.size ≤ 16777216 := by rw [← KBw.ints_length b, ← KBw.ints_length c, hb, hc]; omega
  have h := fun t' k => h (b ++ c) t' k (KBw.ints_app hb hc)
  refine iconcat_gives (typeIs_bytes s b t) (typeIs_bytes s c u) noI_bytes KBy.noFill_bytes_add KBy.seq_bytes_add FB.slot_bytes_add FB.entry_bytes_add (FB.args_bytes_add_2 _ _) (KBy.gives_bytes_add (KBy.tooLong_not hz)) ?_
  by_cases hb : b.isEmpty = true
  · rw [if_pos hb]
    have e : b = #[] := Array.isEmpty_iff.1 hb
    have h' := h u s.toks
    rw [e, Array.empty_append] at h'
    exact h'
  · rw [if_neg hb]
    by_cases hc : c.isEmpty = true
    · rw [if_pos hc]
      have e : c = #[] := Array.isEmpty_iff.1 hc
      have h' := h t s.toks
      rw [e, Array.append_empty] at h'
      exact h'
    · rw [if_neg hc]
      exact ⟨by rw [Array.size_append, sizeLine_eq]; exact hz, h s.toks (s.toks + 1)⟩
theorem to_big4 {x : Int} {t u v : Tok} {Q : Value → Shared → Prop} (h0 : 0 ≤ x) (h1 : x < 4294967296) (h : ∀ b t' k', KBw.bInts b = big 4 x → Q (.bytes b t') { s with toks := k' }) :
    wpAny (model prog w) A (call (.builtin "int.to_bytes") [.int x t, .int 4 u, .str (PySem.Str.ofString "big") v]) Q E s :=
  KTBy.to_big (k := 4) (B := 4294967296) (by decide) (by decide) h0 h1 fun b t' k' e _ => h b t' k' e
theorem to_big8 {x : Int} {t u v : Tok} {Q : Value → Shared → Prop} (h0 : 0 ≤ x) (h1 : x < 18446744073709551616) (h : ∀ b t' k', KBw.bInts b = big 8 x → Q (.bytes b t') { s with toks := k' }) :
    wpAny (model prog w) A (call (.builtin "int.to_bytes") [.int x t, .int 8 u, .str (PySem.Str.ofString "big") v]) Q E s :=
  KTBy.to_big (k := 8) (B := 18446744073709551616) (by decide) (by decide) h0 h1 fun b t' k' e _ => h b t' k' e
end
section
variable {prog : Program} {w : World} {A : Around} {E : Value → Shared → Prop} {s : Shared} {env : Env} {h₀ : Heap} {body : List Stmt} {Q : Flow → Shared → Prop}
def OutEnd (w : World) (h₀ : Heap) (L : Addr) (m₀ : Str → Option Value) (fd : Addr) (t1 t2 : Tok) (p : Int) (tp : Tok) (rest : Ledger) (hdr pre : List Int) (s₁ : Shared) (f : Flow) (s₂ : Shared) : Prop :=
  f = .next ∧ ∃ b tb h' tk' m', s₂ = { s₁ with heap := h', toks := tk' } ∧ Fr h₀ L h' m' ∧ (∀ z, z ≠ Str.ofString "word" → m' z = m₀ z) ∧ News h₀ L h' ((fd, bioDict w t1 t2 b tb p tp) :: rest) ∧ KBw.bInts b = hdr ++ pre.flatMap (big 8)
theorem OutEnd.intro {L : Addr} {m₀ m' : Str → Option Value} {fd : Addr} {t1 t2 : Tok} {p : Int} {tp : Tok} {rest led : Ledger} {hdr pre : List Int} {n : Int} {s₁ : Shared} {b : Array UInt8} {tb : Tok} {h' : Heap} {tk' : Nat} (F : Fr h₀ L h' m') (N : News h₀ L h' led) (hb : KBw.bInts b = (hdr ++ pre.flatMap (big 8)) ++ big 8 n)
    (h1 : (fd, bioDict w t1 t2 b tb p tp) ∈ led) (h2 : ∀ p ∈ rest, p ∈ led) (hm : ∀ z, z ≠ Str.ofString "word" → m' z = m₀ z) : OutEnd w h₀ L m₀ fd t1 t2 p tp rest hdr (pre ++ [n]) s₁ .next { s₁ with heap := h', toks := tk' } :=
  ⟨rfl, b, tb, h', tk', m', rfl, F, hm, fun q hq => by
    rcases List.mem_cons.mp hq with rfl | hq
    · exact N _ h1
    · exact N _ (h2 q hq), by rw [hb, List.flatMap_append, List.append_assoc]; simp⟩
theorem out_loop {D fd fx : Addr} {led news : Ledger} {ys : List Value} {cs : List Int} {ny : Nat} {t1 t2 : Tok} {b₀ : Array UInt8} {tb₀ : Tok} {p : Int} {tp : Tok} {hdr : List Int} {m₀ : Str → Option Value} (hh : A.handled = none) (F : Fr h₀ env.locals s.heap m₀) (N₀ : News h₀ env.locals s.heap led)
    (hf : (fd, bioDict w t1 t2 b₀ tb₀ p tp) ∈ led) (hfx : (fx, instObj 81 fd) ∈ led) (hD : (D, W.listOf ys.toArray ny) ∈ led) (hsub : ∀ p ∈ news, p ∈ led) (off2 : AllLt fd news) (hi : IntsAre ys cs) (hc : ∀ c ∈ cs, 0 ≤ c ∧ c < 18446744073709551616) (hl : (cs.length : Int) ≤ 4) (hb : KBw.bInts b₀ = hdr) (hh1 : hdr.length ≤ 100)
    (turn : ∀ b tb pre n t h tk own, 0 ≤ n → n < 18446744073709551616 → (∀ p ∈ news ++ own, p.1 ≠ fd) → KBw.bInts b = hdr ++ pre.flatMap (big 8) → (hdr ++ pre.flatMap (big 8)).length ≤ 200 →
      Fr h₀ env.locals h (fun y => if y = Str.ofString "word" then some (.int n t) else m₀ y) → News h₀ env.locals h ((fd, bioDict w t1 t2 b tb p tp) :: (fx, instObj 81 fd) :: (D, W.listOf ys.toArray ny) :: (news ++ own)) →
      wpAny (model prog w) A (execs body env) (OutEnd w h₀ env.locals m₀ fd t1 t2 p tp ((fx, instObj 81 fd) :: (D, W.listOf ys.toArray ny) :: (news ++ own)) hdr (pre ++ [n]) { s with heap := h, toks := tk }) E { s with heap := h, toks := tk })
    (done : ∀ b tb (u : Str → Option Value) h tk, KBw.bInts b = hdr ++ cs.flatMap (big 8) → (hdr ++ cs.flatMap (big 8)).length ≤ 200 → Fr h₀ env.locals h (fun y => if y = Str.ofString "word" then u y else m₀ y) →
      News h₀ env.locals h ((fd, bioDict w t1 t2 b tb p tp) :: (fx, instObj 81 fd) :: (D, W.listOf ys.toArray ny) :: news) → Q .next { s with heap := h, toks := tk }) :
    wpAny (model prog w) A (pyIter (.ref D)) (fun it s₂ => LoopAtV prog w A h₀ env (Str.ofString "word") body Q E it s₂) E s := by
  have fl : ∀ l : List Int, (l.flatMap (big 8)).length = 8 * l.length := fun l => by
    induction l with
    | nil => rfl
    | cons a r ih => rw [List.flatMap_cons, List.length_append, big_len, ih, List.length_cons]; omega
  have fr : ∀ (u : Str → Option Value) (v : Option Value), (fun y => if y = Str.ofString "word" then v else kstB (fun z => if ([] : List Str).contains z then u z else m₀ z) [] y) = fun y => if y = Str.ofString "word" then v else m₀ y := by
    intro u v
    funext y
    simp [kstB]
  refine kst_listL (σ := Array UInt8 × Tok) (fun c => (fd, bioDict w t1 t2 c.1 c.2 p tp) :: (fx, instObj 81 fd) :: (D, W.listOf ys.toArray ny) :: news) (fun _ => []) (fun _ => True) [] (fun pre c => KBw.bInts c.1 = hdr ++ pre.flatMap (big 8)) (b₀, tb₀) hh (fun _ => .tail _ (.tail _ (.head _))) hi F
    (fun q hq => N₀ q (by
      rcases List.mem_cons.mp hq with rfl | hq
      · exact hf
      · rcases List.mem_cons.mp hq with rfl | hq
        · exact hfx
        · rcases List.mem_cons.mp hq with rfl | hq
          · exact hD
          · exact hsub q hq)) trivial (by simp) (by simpa using hb) ?_ ?_
  · rintro ⟨b, tb⟩ pre post n t u h tk own e hn hown _ hb' F' N'
    rw [fr] at F'
    have hlen : pre.length ≤ 3 := by
      have := congrArg List.length e
      rw [List.length_append, List.length_cons] at this
      omega
    refine wpAny_mono (turn b tb pre n t h tk own (hc n hn).1 (hc n hn).2 (off_app off2 hown) hb' (by rw [List.length_append, fl]; omega) F' N') (fun f s₂ hf => ?_) fun _ _ e => e
    obtain ⟨rfl, b', tb', h', tk', m', rfl, F'', hm, N'', hb''⟩ := hf
    refine kst_end (b', tb') F'' N'' ?_ ?_ rfl trivial (by simp) (fun z h1 _ _ => hm z h1) hb''
    · intro q hq
      rcases List.mem_cons.mp hq with rfl | hq
      · exact .head _
      · rcases List.mem_cons.mp hq with rfl | hq
        · exact .tail _ (.head _)
        · rcases List.mem_cons.mp hq with rfl | hq
          · exact .tail _ (.tail _ (.head _))
          · exact .tail _ (.tail _ (.tail _ (List.mem_append_left _ hq)))
    · intro q hq
      exact .tail _ (.tail _ (.tail _ (List.mem_append_right _ hq)))
  · rintro ⟨b, tb⟩ u h tk _ hb' F' N'
    have e : (fun y => if y = Str.ofString "word" then u y else kstB (fun z => if ([] : List Str).contains z then u z else m₀ z) [] y) = fun y => if y = Str.ofString "word" then u y else m₀ y := by
      funext y
      exact congrFun (fr u (u y)) y
    rw [e] at F'
    exact done b tb u h tk hb' (by rw [List.length_append, fl]; omega) F' N'
end
def WordsP (P : Int → Bool) (nw : Nat) (ws : List Int) : Prop :=
  ws.length = nw ∧ ∀ i : Nat, i < nw → 0 ≤ ws.getD i 0 ∧ ∀ j : Nat, (ws.getD i 0).toNat.testBit j = (decide (j < 64) && P ((64 * i + j : Nat) : Int))
theorem WordsOf.toP {P : Int → Bool} {ks ws : List Int} {nw : Nat} (h : WordsOf ks nw ws) (hk : ∀ k, k ∈ ks ↔ P k = true) : WordsP P nw ws :=
  ⟨h.1, fun i hi => ⟨(h.2 i hi).1, fun j => by
    rw [(h.2 i hi).2 j]
    congr 1
    rw [Bool.eq_iff_iff, decide_eq_true_eq]
    exact hk _⟩⟩
end Mine
end
section
open PySem PySem.W PyProof.Rows
set_option maxRecDepth 100000
set_option maxHeartbeats 4000000
namespace Mine
local macro_rules | `(tactic| walk_at "call type:set nil nil") => `(tactic| (k_here; k_dflt (refine set_new (by k_asm) (by k_asm) ?_); intro d' o' h' F' N' l1 hs'; (try k_lt l1)))
local macro_rules | `(tactic| k_room) => `(tactic| ktr_room)
local macro_rules | `(tactic| k_mem) => `(tactic| ((fail_if_success (refine' List.Mem.tail _ ?_)); assumption))
local macro_rules | `(tactic| k_units) => `(tactic| ktr_units)
local macro_rules | `(tactic| k_enter) => `(tactic| ((fail_if_success (kp_kind "rest")); first
  | (refine' code_def ?k1 ?k2 ?k3 ?k4 ?k5 ?kA ?kF ?kK ?k6 ?k7 ?k8 ?k9 ?kB ?_ ?c2 ?c3 ?c4 ?c5; (case kA => exact rfl); (case kF => exact rfl); (case kK => first | assumption | exact rfl); (case k1 => k_asm); (case k2 => k_asm); (case k3 => k_asm); (case k4 => k_asm); (case k5 => k_asm); (case k6 => k_is); (case k7 => k_is); (case k8 => ktr_room); (case k9 => first | exact BindsTo.of_eq rfl | exact binds_K (by k_in) rfl (by k_is) rfl rfl rfl); (case c5 => decide); (case kB => exact locs rfl); (case c2 => exact rfl); (case c3 => exact rfl); (case c4 => exact rfl); k_whole; intro g' L' h' FG' F' N' B' X' T'; (try dsimp only); (try k_lift B'); (try k_fold))
  | (refine' code_defC ?k1 ?k2 ?k3 ?k4 ?k5 ?kA ?kF ?kK ?k6 ?k7 ?k8 ?k9 ?kB ?kD ?_ ?c2 ?c3 ?c4; (case kA => exact rfl); (case kF => exact rfl); (case kK => first | assumption | exact rfl); (case k1 => k_asm); (case k2 => k_asm); (case k3 => k_asm); (case k4 => k_asm); (case k5 => k_asm); (case k6 => k_is); (case k7 => k_is); (case k8 => ktr_room); (case k9 => first | exact BindsTo.of_eq rfl | exact binds_K (by k_in) rfl (by k_is) rfl rfl rfl); (case kB => exact rfl); (case kD => decide +kernel); (case c2 => exact rfl); (case c3 => exact rfl); (case c4 => exact rfl); k_whole; intro g' L' h' tk' cells' FG' F' N' Y' B' X' T' l1; (try k_lt l1); k_cells Y'; (try simp only [List.cons_append, List.nil_append] at N'); (try dsimp only); (try k_lift B'); (try k_fold))))
theorem set_max2 {prog : Program} {w : World} {A : Around} {E : Value → Shared → Prop} {s : Shared} {h₀ : Heap} {L sa : Addr} {m : Str → Option Value} {news : Ledger} {so : Obj} {led : Bool} {P : Int → Bool} {Q : Value → Shared → Prop} (hh : A.handled = none) (F : Fr h₀ L s.heap m) (N : News h₀ L s.heap news) (hm : (sa, so) ∈ news) (hS : SetS true led so P) (hled : led = !w.params.followText "set-order") (hne : cnt P ≠ 0) (hP : ∀ k, P k = true → 0 ≤ k ∧ k ≤ 150)
    (h : ∀ k t h' tk, P k = true → (∀ j, P j = true → j ≤ k) → 0 ≤ k → k ≤ 150 → Fr h₀ L h' m → News h₀ L h' news → Q (.int k t) { s with heap := h', toks := tk }) :
    wpAny (model prog w) A (call (.builtin "max") [.ref sa]) Q E s :=
  set_max hh F N hm hS hled hne fun k t h' tk h1 h2 F' N' => h k t h' tk h1 h2 (hP k h1).1 (hP k h1).2 F' N'
def ShapeOf (P : Int → Bool) : Prop := ∀ (ws : List Int) (mx : Int), P mx = true → (∀ j, P j = true → j ≤ mx) → 0 ≤ mx → mx ≤ 150 → WordsP P ((mx + 1 + 63).fdiv 64).toNat ws →
  ∃ z n : Int, CW ws z n ∧ 0 ≤ z ∧ z < n ∧ n ≤ 3 ∧ (ws.length : Int) = n ∧ 0 ≤ ws.getD (Int.toNat 0) 0 ∧ ws.getD (Int.toNat 0) 0 < 18446744073709551615
theorem ShapeOf.at {P : Int → Bool} (h : ShapeOf P) {ws ks : List Int} {mx : Int} (h1 : P mx = true) (h2 : ∀ j, P j = true → j ≤ mx) (h3 : 0 ≤ mx) (h4 : mx ≤ 150) (hW : WordsOf ks ((mx + 1 + 63).fdiv 64).toNat ws) (hk : ∀ k, k ∈ ks ↔ P k = true) :
    ∃ z n : Int, CW ws z n ∧ 0 ≤ z ∧ z < n ∧ n ≤ 3 ∧ (ws.length : Int) = n ∧ 0 ≤ ws.getD (Int.toNat 0) 0 ∧ ws.getD (Int.toNat 0) 0 < 18446744073709551615 := h ws mx h1 h2 h3 h4 (hW.toP hk)
def Enc (P : Int → Bool) (D : Array UInt8) : Prop :=
  (cnt P = 0 ∧ KBw.bInts D = (big 4 0 ++ big 4 0) ++ big 4 0) ∨
  ∃ (mx z n : Int) (ws : List Int), (∀ j, P j = true → 0 ≤ j ∧ j ≤ mx) ∧ 0 ≤ mx ∧ mx ≤ 150 ∧ WordsP P ((mx + 1 + 63).fdiv 64).toNat ws ∧ CW ws z n ∧ 0 ≤ z ∧ z < n ∧ n ≤ 3 ∧ (ws.length : Int) = n ∧
    KBw.bInts D = ((big 4 (mx + 1) ++ big 4 (n - z + 1)) ++ ((8589934592 * (n - z) + 2 * z) :: ws.drop z.toNat).flatMap (big 8)) ++ big 4 0
theorem Enc.mk {P : Int → Bool} {D : Array UInt8} {mx z n l : Int} {ws cs ks : List Int} (hP : ∀ k, P k = true → 0 ≤ k ∧ k ≤ 150) (h2 : ∀ j, P j = true → j ≤ mx) (h3 : 0 ≤ mx) (h4 : mx ≤ 150) (hW : WordsOf ks ((mx + 1 + 63).fdiv 64).toNat ws) (hk : ∀ k, k ∈ ks ↔ P k = true) (C : CW ws z n) (z0 : 0 ≤ z) (zn : z < n) (hn : n ≤ 3) (hl : (ws.length : Int) = n)
    (hc : cs = (8589934592 * (n - z) + 2 * z) :: ws.drop z.toNat) (hcl : l = n - z + 1) (hD : KBw.bInts D = ((([] ++ big 4 (mx + 1)) ++ big 4 l) ++ cs.flatMap (big 8)) ++ big 4 0) : Enc P D :=
  .inr ⟨mx, z, n, ws, fun j hj => ⟨(hP j hj).1, h2 j hj⟩, h3, h4, hW.toP hk, C, z0, zn, hn, hl, by rw [hD, hc, hcl, List.nil_append]⟩
theorem comp_facts {ws : List Int} {z n : Int} (C : CW ws z n) (z0 : 0 ≤ z) (zn : z < n) (hn : n ≤ 3) (hl : (ws.length : Int) = n) :
    ((((8589934592 * (n - z) + 2 * z) :: ws.drop z.toNat).length : Nat) : Int) = n - z + 1 ∧ ∀ c ∈ (8589934592 * (n - z) + 2 * z) :: ws.drop z.toNat, 0 ≤ c ∧ c < 18446744073709551616 := by
  refine ⟨by rw [List.length_cons, List.length_drop]; omega, fun c hc => ?_⟩
  rcases List.mem_cons.mp hc with rfl | hc
  · omega
  · obtain ⟨i, hi, rfl⟩ := List.mem_iff_getElem.mp hc
    rw [List.length_drop] at hi
    have := C.2 ((z.toNat + i : Nat) : Int) (by omega) (by omega)
    rw [Int.toNat_natCast, List.getD_eq_getElem?_getD, List.getElem?_eq_getElem (by omega)] at this
    rw [List.getElem_drop]
    simp only [Option.getD_some] at this
    omega
local macro_rules | `(tactic| walk_at "truthy ref") => `(tactic| (k_here; k_dflt (refine' set_truthy ?N ?a ?A ?_; (case N => k_asm); (case a => k_mem); (case A => assumption); k_whole)))
local macro_rules | `(tactic| walk_at "call builtin:max") => `(tactic| (k_here; k_dflt (refine' set_max2 ?hh ?F ?N ?a ?A rfl ?ne ?hp ?_; (case hh => exact rfl); (case F => k_asm); (case N => k_asm); (case a => k_mem); (case A => assumption); (case ne => assumption); (case hp => assumption); k_whole); intro mx tmx h' tk' hmx hmx2 hmx3 hmx4 F' N'))
local macro_rules | `(tactic| walk_at "ite") => `(tactic| (first | (refine ite_pos (by (rw [decide_eq_true_eq]; assumption)) ?_) | (refine ite_neg (by simpa using (by assumption)) ?_)))
local macro_rules | `(tactic| walk_at "pyIter ref") => `(tactic| ((with_reducible show wpAny _ _ (pyIter _) (fun it s₂ => LoopAtV _ _ _ _ _ (Str.ofString "bit") _ _ _ it s₂) _ _); (k_dflt (refine' bits_loop ?hh ?F ?N ?hs ?S ?hw ?hsub ?off ?off2 ?ne ?hi ?hW ?hb ?_ ?_; (case off => assumption); (case hh => exact rfl); (case F => k_asm); (case N => k_asm); (case S => assumption); (case hs => k_mem); (case hw => k_mem); (case hsub => exact fun p hp => List.Mem.tail _ (List.Mem.tail _ (List.Mem.tail _ hp))); (case off2 => exact And.right (And.right (by assumption))); (case ne => ((show @Ne Nat _ _); omega)); (case hi => assumption); (case hW => exact words_start _); (case hb => exact bits_room (by assumption) (by assumption)))); (intro vs ws pre k t u h tk own hk hk0 hk1 hq0 hq1 hq2 hq3 hown hi hW F' N'); rotate_left; (intro vs ws ks u h tk hks hi hW F' N'); (obtain ⟨z, n, hC, z0, zn, hn3, hlw, hlo, hhi⟩ := ShapeOf.at (by assumption) (by assumption) (by assumption) (by assumption) (by assumption) hW hks); (try dsimp only); rotate_left))
local macro_rules | `(tactic| k_all) => `(tactic| with_reducible assumption)
local macro_rules | `(tactic| walk_at "BitsEnd") => `(tactic| exact BitsEnd.intro (by assumption) (by assumption) (by assumption) (words_turn (by assumption) (by assumption) (by assumption)) (by (intro z h1 h2 h3; simp [h1, h2, h3])))
local macro_rules | `(tactic| walk_at "call ref") => `(tactic| (k_here; (with_reducible show wpAny _ _ (call (Value.ref 92) _ _) _ _ _); (k_dflt (refine' bm_comp _ _ _ _ _ _ _ _ _ _ _ _ _ _ _ _ _ _ _ _ _ _ ?kB ?kF ?kX ?kN ?kT ?kk ?kd ?ku _ _ _ _ _ ?hn _ ?hw ?hv ?hC ?z0 ?zn ?hl ?hlo ?hhi ?_; (case kB => k_asm); (case kF => k_asm); (case kX => k_asm); (case kN => k_asm); (case kT => k_asm); (case kk => first | exact rfl | assumption); (case kd => ktr_room); (case ku => ktr_units); (case hw => k_mem); (case hv => assumption); (case hC => assumption); (case hn => assumption); (case z0 => assumption); (case zn => assumption); (case hl => assumption); (case hlo => assumption); (case hhi => assumption); k_whole)); (intro D' ys' ny' h' tk' hys' F' N' l1); (obtain ⟨hcl, hcc⟩ := comp_facts (by assumption) (by assumption) (by assumption) (by assumption) (by assumption)); (generalize hcs : _ :: List.drop _ _ = cs at hys' hcl hcc); (try simp only [AllLt, and_true] at l1)))
local macro_rules | `(tactic| walk_at "call builtin:int.to_bytes") => `(tactic| (k_here; (first | (with_unfolding_all refine to_big4 ?h0 ?h1 ?_) | (with_unfolding_all refine to_big8 ?h0 ?h1 ?_)); (case h0 => omega); (case h1 => omega); intro b' t' k' hb'))
local macro_rules | `(tactic| walk_at "inplaceOp Add bytes bytes") => `(tactic| (k_here; (refine iadd_bytes (by first | assumption | exact bints_nil) (by assumption) (by (simp only [List.length_append, List.length_nil, big_len] at *; omega)) ?_); intro d' t' k' hd'))
local macro_rules | `(tactic| walk_at "pyIter ref") => `(tactic| ((with_reducible show wpAny _ _ (pyIter _) (fun it s₂ => LoopAtV _ _ _ _ _ (Str.ofString "word") _ _ _ it s₂) _ _); (k_dflt (refine' out_loop ?hh ?F ?N ?hf ?hfx ?hD ?hsub ?off2 ?hi ?hc ?hl ?hb ?hh1 ?_ ?_; (case hh => exact rfl); (case F => k_asm); (case N => k_asm); (case hi => assumption); (case hD => k_mem); (case hfx => k_mem); (case hf => k_mem); (case off2 => exact And.right (And.right (by assumption))); (case hsub => exact fun p hp => by (repeat (first | exact hp | apply List.Mem.tail))); (case hc => assumption); (case hl => omega); (case hb => assumption); (case hh1 => (simp only [List.length_append, List.length_nil, big_len]; omega)))); (intro b tb pre n t h tk own hn0 hn1 hoff hb hlen F' N'); rotate_left; (intro b tb u h tk hb hlen F' N'); (try dsimp only); rotate_left))
local macro_rules | `(tactic| walk_at "OutEnd") => `(tactic| exact OutEnd.intro (by assumption) (by assumption) (by assumption) (by k_mem) (fun p hp => by (repeat (first | exact hp | apply List.Mem.tail))) (by (intro z h1; simp [h1])))
local macro_rules | `(tactic| walk_at "execs cons") => `(tactic| (k_here; (with_reducible refine gen_toks1 ?_); intro tk))
local macro_rules | `(tactic| walk_at "execs nil") => `(tactic| (k_here; (with_reducible refine gen_toks1 ?_); intro tk))
theorem bm_encode1 (w : World) (mean : ExcName → Option Value) (mg mb : Str → Option Value) (dp un : Nat) (gd : Option (List Code)) (cn : Str) (cs : Scope) (a : Addr) (ccd : Value) (cl : List (Str × Addr)) (outer : List Env) (A₀ : Around) (base h₀ : Heap) (L : Addr) (m : Str → Option Value) (news : Ledger) (sa : Addr) (so : Obj) (s : Shared) (Q E : Value → Shared → Prop)
    (B : Below A₀ base outer h₀) (F : Fr h₀ L s.heap m) (X : (Mine.hd.heap_39 w.params).In h₀) (N : News h₀ L s.heap ((sa, so) :: news)) (T : Top Mine.hd.view_39 (looseW Mine.hd.view_39 [Str.ofString "struct", Str.ofString "BytesIO"]) mean mg mb h₀) (hk : cs.kind = .function) (hd : dp + 20 < recursionLimit) (hu : un + 200 < cLine)
    (x dx : Addr) (t1 t2 t3 : Tok) (c : Int) (P : Int → Bool)
    (hx : (x, instObj 173 dx) ∈ news) (hdx : (dx, bmDict w t1 t2 sa c t3) ∈ news) (off : AllLt sa news) (SA : SetS true (ledOf w) so P)
    (hne : cnt P ≠ 0) (hP : ∀ k, P k = true → 0 ≤ k ∧ k ≤ 150) (hsh : ShapeOf P)
    (hret : ∀ (D : Array UInt8) (t : Tok) (h' : Heap) (tk' : Nat), Fr h₀ L h' m → News h₀ L h' news → Enc P D → Q (.bytes D t) { s with heap := h', toks := tk' }) :
    wpAny (model Challenge.rw_bh0020_01.row.prog w) (ktrTop dp un gd cn cs L a ccd cl outer) (call (.ref 121) [.ref x]) Q E s := by
  w_top off
  k_with_none
  have hfill : Challenge.rw_bh0020_01 = Challenge.rw_bh0020_01 ∧ (Mine.hd.heap_39 w.params).In h₀ := ⟨rfl, X⟩
  revert hfill
  k_fill
  intro hfill
  clear hfill
  k_steps
  exact hret _ _ _ _ (by assumption) (cb_drop (by assumption) (fun p hp => .tail _ (.tail _ (.tail _ (.tail _ hp))))) (Enc.mk (by assumption) (by assumption) (by assumption) (by assumption) (by assumption) (by assumption) (by assumption) (by assumption) (by assumption) (by assumption) (by assumption) (by (symm; assumption)) (by assumption) (by assumption))
end Mine
end
section
open PySem PySem.W PyProof.Rows
set_option maxRecDepth 100000
namespace Mine
theorem value_snoc (ks : List Int) (x : Int) : KFB.value (ks ++ [x]) = KFB.value ks * 256 + x := by unfold KFB.value; rw [List.foldl_append]; rfl
theorem value_big : ∀ (k : Nat) (x : Int), 0 ≤ x → x < 256 ^ k → KFB.value (big k x) = x
  | 0, x, h0, h1 => by simp at h1; have : x = 0 := by omega
                       subst this; rfl
  | k + 1, x, h0, h1 => by
    have e : big (k + 1) x = big k (x / 256) ++ [x % 256] := by unfold big; rw [show KTBy.little (k + 1) x = x % 256 :: KTBy.little k (x / 256) from rfl, List.reverse_cons]
    rw [e, value_snoc, value_big k (x / 256) (by omega) (by rw [Int.pow_succ] at h1; omega)]
    omega
def slc (ks : List Int) (p n : Int) : List Int := (ks.drop p.toNat).take n.toNat
def DecKs (ks : List Int) (a : Int) (cs : List Int) : Prop := ks = ((big 4 a ++ big 4 (cs.length : Int)) ++ cs.flatMap (big 8)) ++ big 4 0
theorem flat_len (l : List Int) : (l.flatMap (big 8)).length = 8 * l.length := by
  induction l with
  | nil => rfl
  | cons a r ih => rw [List.flatMap_cons, List.length_append, big_len, ih, List.length_cons]; omega
theorem DecKs.len {ks cs : List Int} {a : Int} (h : DecKs ks a cs) : (ks.length : Int) = 12 + 8 * cs.length := by
  rw [h]; simp only [List.length_append, big_len, flat_len]; omega
theorem slc_mid {l m r : List Int} {p n : Int} (hp : p = l.length) (hn : n = m.length) : slc (l ++ (m ++ r)) p n = m := by
  unfold slc
  subst hp hn
  rw [Int.toNat_natCast, Int.toNat_natCast, List.drop_left, List.take_left]
theorem val_a {ks cs : List Int} {a p n : Int} (h : DecKs ks a cs) (h0 : 0 ≤ a) (h1 : a < 4294967296) (hp : p = 0) (hn : n = 4) : KFB.value (slc ks p n) = a := by
  have e : ks = [] ++ (big 4 a ++ ((big 4 (cs.length : Int) ++ cs.flatMap (big 8)) ++ big 4 0)) := by rw [h]; simp only [List.nil_append, List.append_assoc]
  rw [e, slc_mid (by rw [hp]; rfl) (by rw [hn, big_len]; rfl)]
  exact value_big 4 a h0 h1
theorem val_l {ks cs : List Int} {a p n : Int} (h : DecKs ks a cs) (h1 : (cs.length : Int) ≤ 4) (hp : p = 4) (hn : n = 4) : KFB.value (slc ks p n) = (cs.length : Int) := by
  have e : ks = big 4 a ++ (big 4 (cs.length : Int) ++ (cs.flatMap (big 8) ++ big 4 0)) := by rw [h]; simp only [List.append_assoc]
  rw [e, slc_mid (by rw [hp, big_len]; rfl) (by rw [hn, big_len]; rfl)]
  exact value_big 4 _ (by omega) (by have : (256 : Int) ^ 4 = 4294967296 := by decide
                                     omega)
theorem val_c {ks cs : List Int} {a p n : Int} {i : Nat} (h : DecKs ks a cs) (hi : i < cs.length) (hc : ∀ c ∈ cs, 0 ≤ c ∧ c < 18446744073709551616) (hp : p = 8 + 8 * i) (hn : n = 8) : KFB.value (slc ks p n) = cs.getD i 0 := by
  have hd : cs = cs.take i ++ (cs.getD i 0 :: cs.drop (i + 1)) := by
    rw [List.getD_eq_getElem?_getD, List.getElem?_eq_getElem hi]
    simp
  have e : ks = ((big 4 a ++ big 4 (cs.length : Int)) ++ (cs.take i).flatMap (big 8)) ++ (big 8 (cs.getD i 0) ++ ((cs.drop (i + 1)).flatMap (big 8) ++ big 4 0)) := by
    rw [h]
    conv => lhs; rw [show cs.flatMap (big 8) = (cs.take i ++ (cs.getD i 0 :: cs.drop (i + 1))).flatMap (big 8) by rw [← hd]]
    rw [List.flatMap_append, List.flatMap_cons]
    simp only [List.append_assoc]
  have hm : cs.getD i 0 ∈ cs := by
    rw [List.getD_eq_getElem?_getD, List.getElem?_eq_getElem hi]
    exact List.getElem_mem hi
  rw [e, slc_mid (by rw [hp]; simp only [List.length_append, big_len, flat_len, List.length_take]; omega) (by rw [hn, big_len]; rfl)]
  exact value_big 8 _ (hc _ hm).1 (by have : (256 : Int) ^ 8 = 18446744073709551616 := by decide
                                      have := (hc _ hm).2
                                      omega)
section
variable {prog : Program} {w : World} {A : Around} {E : Value → Shared → Prop} {s : Shared} {h₀ : Heap} {L : Addr} {m : Str → Option Value} {news : Ledger} {Q : Value → Shared → Prop}
theorem slc_K {value slice : Expr} {b : Array UInt8} {t tp tq : Tok} {ks : List Int} {p n : Int} (hF : Fr h₀ L s.heap m) (hN : News h₀ L s.heap news) (hk : KBw.bInts b = ks) (h0 : 0 ≤ p) (h1 : 0 ≤ n) (h2 : p + n ≤ (ks.length : Int)) (h3 : (ks.length : Int) ≤ 1000)
    (h : ∀ d h' t' k, Fr h₀ L h' m → News h₀ L h' news → KBw.bInts d = slc ks p n → ((slc ks p n).length : Int) = n → Q (.bytes d t') { s with heap := h', toks := k })
    (hs : subscripted slice false (.bytes b t) (.ref s.heap.objs.size) = operate [.ref s.heap.objs.size, .bytes b t] (getItem (.bytes b t) (.ref s.heap.objs.size)) := by with_unfolding_all rfl)
    (ht : ∀ r, letTemporaryGo value (.bytes b t) r = pure () := by intro _; with_unfolding_all rfl) :
    wpAny (model prog w) A (subscriptTail value slice (.bytes b t) (.ref s.heap.objs.size)) Q E { s with heap := s.heap.push { cls := .type "slice", data := .fields #[.int p tp, .int (p + n) tq, .none] } } := by
  refine KBc.slice_K (lo := some p) (hi := some (p + n)) hF hN hk (by constructor) (by constructor) (by omega) (fun h' t' k F' N' e => ?_) hs ht
  have e2 : (ks.drop ((some p).elim 0 (clipAt ks.length))).take ((some (p + n)).elim ks.length (clipAt ks.length) - (some p).elim 0 (clipAt ks.length)) = slc ks p n := by
    show (ks.drop (clipAt ks.length p)).take (clipAt ks.length (p + n) - clipAt ks.length p) = _
    rw [clipAt_in h0 (by omega), clipAt_in (by omega) h2]
    unfold slc
    congr 1
    omega
  rw [e2] at e
  refine h _ h' t' k F' N' e ?_
  unfold slc
  rw [List.length_take, List.length_drop]
  omega
theorem from_K {x : Addr} {b : Array UInt8} {t u : Tok} {ks : List Int} {z : Int} (N : News h₀ L s.heap news) (hm : (x, KFB.bound) ∈ news) (hb : KBw.bInts b = ks) (hl : (ks.length : Int) ≤ 8) (hz : KFB.value ks = z)
    (h : ∀ t' k, Q (.int z t') { s with toks := k }) : wpAny (model prog w) A (call (.ref x) [.bytes b t, .str (PySem.Str.ofString "big") u]) Q E s :=
  KFB.call_big N hm hb (by omega) (by rw [hz]; exact h)
end
def forget : List Str → (Str → Option Value) → (Str → Option Value) → Str → Option Value
  | [], _, m₀ => m₀
  | n :: r, u, m₀ => fun y => if y = n then u y else forget r u m₀ y
theorem forget_eq (u m₀ : Str → Option Value) : ∀ (ns : List Str) (z : Str), (if ns.contains z = true then u z else m₀ z) = forget ns u m₀ z
  | [], z => by simp [forget]
  | n :: r, z => by
    have := forget_eq u m₀ r z
    simp only [forget]
    by_cases h : z = n
    · rw [if_pos h, if_pos (by simp [h])]
    · rw [if_neg h, ← this]
      have : (n :: r).contains z = r.contains z := by
        rw [List.contains_cons]
        simp [h]
      rw [this]
section
variable {prog : Program} {w : World} {A : Around} {E : Value → Shared → Prop} {s : Shared} {env : Env} {h₀ : Heap} {x : Str} {body : List Stmt} {Q : Flow → Shared → Prop}
def RngEnd {σ : Type} (h₀ : Heap) (L : Addr) (x : Str) (ns : List Str) (m₀ : Str → Option Value) (Led : σ → Ledger) (ps : σ → List (Str × Value)) (Inv : σ → Prop) (own : Ledger) (s₁ : Shared) (f : Flow) (s₂ : Shared) : Prop :=
  f = .next ∧ ∃ c h' tk' m' led, s₂ = { s₁ with heap := h', toks := tk' } ∧ Fr h₀ L h' m' ∧ (∀ p ∈ ps c, m' p.1 = some p.2) ∧ (∀ z, z ≠ x → (∀ p ∈ ps c, z ≠ p.1) → ns.contains z = false → m' z = m₀ z) ∧ News h₀ L h' led ∧ (∀ p ∈ Led c, p ∈ led) ∧ (∀ p ∈ own, p ∈ led) ∧ Inv c
theorem RngEnd.intro {σ : Type} {L : Addr} {ns : List Str} {m₀ m' : Str → Option Value} {Led : σ → Ledger} {ps : σ → List (Str × Value)} {Inv : σ → Prop} {own led : Ledger} {s₁ : Shared} {h' : Heap} {tk' : Nat} (c : σ) (F : Fr h₀ L h' m') (N : News h₀ L h' led) (h1 : ∀ p ∈ ps c, m' p.1 = some p.2) (h2 : ∀ z, z ≠ x → (∀ p ∈ ps c, z ≠ p.1) → ns.contains z = false → m' z = m₀ z)
    (h3 : ∀ p ∈ Led c, p ∈ led) (h4 : ∀ p ∈ own, p ∈ led) (h5 : Inv c) : RngEnd h₀ L x ns m₀ Led ps Inv own s₁ .next { s₁ with heap := h', toks := tk' } :=
  ⟨rfl, c, h', tk', m', led, rfl, F, h1, h2, N, h3, h4, h5⟩
theorem rng_loop {σ : Type} {r : Addr} {b₀ : Int} {t₀ u₀ v₀ : Tok} {n : Nat} {m₀ : Str → Option Value} {led : Ledger} (ns : List Str) (Led : σ → Ledger) (ps : σ → List (Str × Value)) (Inv : Nat → σ → Prop) (c₀ : σ)
    (hh : A.handled = none) (hr : IsRange s.heap r 0 b₀ 1 t₀ u₀ v₀) (hn : b₀ = (n : Int)) (hn2 : b₀ ≤ 1000) (F : Fr h₀ env.locals s.heap m₀) (N₀ : News h₀ env.locals s.heap led) (hN : ∀ p ∈ Led c₀, p ∈ led) (ha : ∀ c, (Led c).map (·.1) = (Led c₀).map (·.1)) (hk : ∀ p ∈ ps c₀, m₀ p.1 = some p.2) (hp : Inv 0 c₀)
    (turn : ∀ (c : σ) (i : Nat) t (u : Str → Option Value) h tk own, i < n → OwnOff own ((Led c₀).map (·.1)) → Inv i c →
      Fr h₀ env.locals h (fun y => if y = x then some (.int (i : Int) t) else kstB (forget ns u m₀) (ps c) y) → News h₀ env.locals h (Led c ++ own) →
      wpAny (model prog w) A (execs body env) (RngEnd h₀ env.locals x ns m₀ Led ps (Inv (i + 1)) own { s with heap := h, toks := tk }) E { s with heap := h, toks := tk })
    (done : ∀ (c : σ) (u : Str → Option Value) h tk, Inv n c → Fr h₀ env.locals h (fun y => if y = x then u y else kstB (forget ns u m₀) (ps c) y) → News h₀ env.locals h (Led c) → Q .next { s with heap := h, toks := tk }) :
    wpAny (model prog w) A (pyIter (.ref r)) (fun it s₂ => LoopAtV prog w A h₀ env x body Q E it s₂) E s := by
  have fr : ∀ (u : Str → Option Value) (l : List (Str × Value)), kstB (fun z => if ns.contains z then u z else m₀ z) l = kstB (forget ns u m₀) l := fun u l => by
    rw [show (fun z => if ns.contains z = true then u z else m₀ z) = forget ns u m₀ from funext fun z => forget_eq u m₀ ns z]
  refine kst_range (n := n) Led ps (fun _ => True) ns (fun pre c => Inv pre.length c) c₀ hh hr (small_one (by omega) (by omega) (by omega) (by omega)) (by rw [rangeSize_nat, hn]; simp) F (fun p hp => N₀ p (hN p hp)) trivial hk hp ?_ ?_
  · intro c pre k t u h tk own e hi hown _ hI F' N'
    rw [fr] at F'
    have e' : k = (pre.length : Int) := by omega
    subst e'
    refine wpAny_mono (turn c pre.length t u h tk own hi hown hI F' N') (fun f s₂ hf => ?_) fun _ _ e => e
    obtain ⟨rfl, c', h', tk', m', led', rfl, F'', h1, h2, N'', h3, h4, h5⟩ := hf
    exact kst_end c' F'' N'' h3 h4 (ha c') trivial h1 h2 (by show Inv (pre ++ [_]).length c'; rw [List.length_append, List.length_singleton]; exact h5)
  · intro c u h tk _ hI F' N'
    rw [fr] at F'
    exact done c u h tk (by rw [rangeKs_length] at hI; exact hI) F' N'
end
end Mine
end
section
open PySem PySem.W PyProof.Rows
set_option maxRecDepth 100000
namespace Mine
theorem off_of {news own : Ledger} {adr : List Addr} {d : Addr} (h : AllLt d news) (ho : OwnOff own adr) (hd : d ∈ adr) : ∀ p ∈ news ++ own, p.1 ≠ d := fun p hp => by
  rcases List.mem_append.mp hp with hp | hp
  · exact Nat.ne_of_lt (kst_ltOf h p hp)
  · exact ho p hp d hd
section
variable {prog : Program} {w : World} {A : Around} {E : Value → Shared → Prop} {s : Shared} {env : Env} {h₀ : Heap} {body : List Stmt} {Q : Flow → Shared → Prop}
def RdLed (w : World) (sa : Addr) (so : Obj) (wl fd fx x dx : Addr) (tA tB : Tok) (D : Array UInt8) (tD : Tok) (t1 t2 : Tok) (c : Int) (t3 : Tok) (news : Ledger) (ys : List Value) (ny : Nat) (p : Int) (tp : Tok) : Ledger :=
  (sa, so) :: (wl, W.listOf ys.toArray ny) :: (fd, bioDict w tA tB D tD p tp) :: (fx, instObj 81 fd) :: (x, instObj 173 dx) :: (dx, bmDict w t1 t2 sa c t3) :: news
def RdEnd (h₀ : Heap) (L : Addr) (m₀ : Str → Option Value) (Led : List Value → Nat → Int → Tok → Ledger) (own : Ledger) (ms : List Int) (i : Nat) (s₁ : Shared) (f : Flow) (s₂ : Shared) : Prop :=
  f = .next ∧ ∃ ys ny p tp h' tk' m' led, s₂ = { s₁ with heap := h', toks := tk' } ∧ Fr h₀ L h' m' ∧ (∀ z, z ≠ Str.ofString "_" → z ≠ Str.ofString "word_bytes" → z ≠ Str.ofString "word" → m' z = m₀ z) ∧ News h₀ L h' led ∧ (∀ p' ∈ Led ys ny p tp, p' ∈ led) ∧ (∀ p ∈ own, p ∈ led) ∧ p = 8 + 8 * ((i + 1 : Nat) : Int) ∧ IntsAre ys (ms.take (i + 1))
theorem RdEnd.intro {L : Addr} {m₀ m' : Str → Option Value} {sa wl fd fx x dx : Addr} {so : Obj} {tA tB : Tok} {D : Array UInt8} {tD t1 t2 : Tok} {c : Int} {t3 : Tok} {news own led : Ledger} {ms : List Int} {i : Nat} {s₁ : Shared} {h' : Heap} {tk' : Nat} {vs : List Value} {v : Tok} {ny : Nat} {p : Int} {tp : Tok}
    (F : Fr h₀ L h' m') (N : News h₀ L h' led) (g6 : (sa, so) ∈ led) (g1 : (wl, W.listOf (vs ++ [Value.int (ms.getD i 0) v]).toArray ny) ∈ led) (g2 : (fd, bioDict w tA tB D tD p tp) ∈ led) (g3 : (fx, instObj 81 fd) ∈ led) (g4 : (x, instObj 173 dx) ∈ led) (g5 : (dx, bmDict w t1 t2 sa c t3) ∈ led) (hi : IntsAre vs (ms.take i)) (hlt : i < ms.length) (hm : ∀ z, z ≠ Str.ofString "_" → z ≠ Str.ofString "word_bytes" → z ≠ Str.ofString "word" → m' z = m₀ z) (hp : p = 8 + 8 * ((i + 1 : Nat) : Int))
    (h1 : ∀ q ∈ news, q ∈ led) (h2 : ∀ q ∈ own, q ∈ led) :
    RdEnd h₀ L m₀ (RdLed w sa so wl fd fx x dx tA tB D tD t1 t2 c t3 news) own ms i s₁ .next { s₁ with heap := h', toks := tk' } := by
  refine ⟨rfl, vs ++ [Value.int (ms.getD i 0) v], ny, p, tp, h', tk', m', led, rfl, F, hm, N, fun q hq => ?_, h2, hp, ?_⟩
  rotate_left
  · have e : ms.take (i + 1) = ms.take i ++ [ms.getD i 0] := by
      rw [List.take_add_one, List.getD_eq_getElem?_getD, List.getElem?_eq_getElem hlt]; rfl
    rw [e]
    exact intsAre_snoc hi
  · simp only [RdLed, List.mem_cons] at hq
    rcases hq with rfl | rfl | rfl | rfl | rfl | rfl | hq
    · exact g6
    · exact g1
    · exact g2
    · exact g3
    · exact g4
    · exact g5
    · exact h1 q hq
theorem read_loop {r : Addr} {b₀ : Int} {t₀ u₀ v₀ : Tok} {m₀ : Str → Option Value} {led news : Ledger} {sa wl fd fx x dx : Addr} {so : Obj} {tA tB : Tok} {D : Array UInt8} {tD t1 t2 : Tok} {c : Int} {t3 : Tok} {ms : List Int} {n₀ : Nat} {p₀ : Int} {tp₀ : Tok}
    (hS : SetS true (ledOf w) so (fun _ => false)) (hh : A.handled = none) (hr : IsRange s.heap r 0 b₀ 1 t₀ u₀ v₀) (hb : b₀ = (ms.length : Int)) (hl : (ms.length : Int) ≤ 4) (F : Fr h₀ env.locals s.heap m₀) (N₀ : News h₀ env.locals s.heap led)
    (g1 : (wl, W.listOf #[] n₀) ∈ led) (g2 : (fd, bioDict w tA tB D tD p₀ tp₀) ∈ led) (g3 : (fx, instObj 81 fd) ∈ led) (g4 : (x, instObj 173 dx) ∈ led) (g5 : (dx, bmDict w t1 t2 sa c t3) ∈ led) (g6 : (sa, so) ∈ led) (o1 : AllLt wl news) (o2 : AllLt fd news) (hsub : ∀ q ∈ news, q ∈ led) (hp0 : p₀ = 8)
    (turn : ∀ (i : Nat) t ys ny p tp (u : Str → Option Value) h tk own, i < ms.length → p = 8 + 8 * (i : Int) → IntsAre ys (ms.take i) → (ys.length : Int) = i → (∀ q ∈ news ++ own, q.1 ≠ wl) → (∀ q ∈ news ++ own, q.1 ≠ fd) →
      Fr h₀ env.locals h (fun y => if y = Str.ofString "_" then some (.int (i : Int) t) else if y = Str.ofString "word_bytes" then u y else if y = Str.ofString "word" then u y else m₀ y) →
      News h₀ env.locals h ((sa, so) :: (wl, W.listOf ys.toArray ny) :: (fd, bioDict w tA tB D tD p tp) :: (fx, instObj 81 fd) :: (x, instObj 173 dx) :: (dx, bmDict w t1 t2 sa c t3) :: (news ++ own)) →
      wpAny (model prog w) A (execs body env) (RdEnd h₀ env.locals m₀ (RdLed w sa so wl fd fx x dx tA tB D tD t1 t2 c t3 news) own ms i { s with heap := h, toks := tk }) E { s with heap := h, toks := tk })
    (done : ∀ ys ny p tp (u : Str → Option Value) h tk, p = 8 + 8 * (ms.length : Int) → IntsAre ys ms → Fr h₀ env.locals h (fun y => if y = Str.ofString "_" then u y else if y = Str.ofString "word_bytes" then u y else if y = Str.ofString "word" then u y else m₀ y) →
      News h₀ env.locals h ((sa, so) :: (wl, W.listOf ys.toArray ny) :: (fd, bioDict w tA tB D tD p tp) :: (fx, instObj 81 fd) :: (x, instObj 173 dx) :: (dx, bmDict w t1 t2 sa c t3) :: news) → Q .next { s with heap := h, toks := tk }) :
    wpAny (model prog w) A (pyIter (.ref r)) (fun it s₂ => LoopAtV prog w A h₀ env (Str.ofString "_") body Q E it s₂) E s := by
  subst hp0
  have key : ∀ z : Str, ([Str.ofString "word_bytes", Str.ofString "word"] : List Str).contains z = false ↔ z ≠ Str.ofString "word_bytes" ∧ z ≠ Str.ofString "word" := by intro z; simp
  refine rng_loop (σ := List Value × Nat × Int × Tok) (n := ms.length) [Str.ofString "word_bytes", Str.ofString "word"] (fun q => RdLed w sa so wl fd fx x dx tA tB D tD t1 t2 c t3 news q.1 q.2.1 q.2.2.1 q.2.2.2) (fun _ => []) (fun i q => q.2.2.1 = 8 + 8 * (i : Int) ∧ IntsAre q.1 (ms.take i)) ([], n₀, 8, tp₀) hh hr hb (by omega) F N₀
    ?_ (fun _ => rfl) (by simp) ⟨rfl, .nil⟩ ?_ ?_
  · intro q hq
    simp only [RdLed, List.mem_cons] at hq
    rcases hq with rfl | rfl | rfl | rfl | rfl | rfl | hq
    · exact g6
    · exact g1
    · exact g2
    · exact g3
    · exact g4
    · exact g5
    · exact hsub q hq
  · rintro ⟨ys, ny, p, tp⟩ i t u h tk own hi hown ⟨hp, hys⟩ F' N'
    have hle : ys.length = i := by rw [hys.length, List.length_take]; omega
    have d1 : wl ∈ (RdLed w sa so wl fd fx x dx tA tB D tD t1 t2 c t3 news [] n₀ 8 tp₀).map (·.1) := .tail _ (.head _)
    have d2 : fd ∈ (RdLed w sa so wl fd fx x dx tA tB D tD t1 t2 c t3 news [] n₀ 8 tp₀).map (·.1) := .tail _ (.tail _ (.head _))
    refine wpAny_mono (turn i t ys ny p tp u h tk own hi hp hys (by rw [hle]) (off_of o1 hown d1) (off_of o2 hown d2) F' N') (fun f s₂ hf => ?_) fun _ _ e => e
    obtain ⟨rfl, ys', ny', p', tp', h', tk', m', led', rfl, F'', hm, N'', h1, h2, hp', hys'⟩ := hf
    exact RngEnd.intro (ys', ny', p', tp') F'' N'' (by simp) (fun z a _ b => hm z a ((key z).mp b).1 ((key z).mp b).2) h1 h2 ⟨hp', hys'⟩
  · rintro ⟨ys, ny, p, tp⟩ u h tk ⟨hp, hys⟩ F' N'
    rw [List.take_length] at hys
    exact done ys ny p tp u h tk hp hys F' N'
def upTo (P : Int → Bool) (c : Int) : Int → Bool := fun k => P k && decide (k < c)
def BitFact (P : Int → Bool) (lit cur : Int) (i : Nat) : Prop := (Builtin.bitAnd lit (1 * 2 ^ ((i : Nat) : Int).toNat) ≠ 0 → P (cur + i) = true ∧ 0 ≤ cur + (i : Int) ∧ cur + (i : Int) < 152) ∧ (Builtin.bitAnd lit (1 * 2 ^ ((i : Nat) : Int).toNat) = 0 → P (cur + i) = false)
theorem BitFact.lo {P : Int → Bool} {lit cur : Int} {i : Nat} (h : BitFact P lit cur i) (a : Builtin.bitAnd lit (1 * 2 ^ ((i : Nat) : Int).toNat) ≠ 0) : 0 ≤ cur + (i : Int) := (h.1 a).2.1
theorem BitFact.hi {P : Int → Bool} {lit cur : Int} {i : Nat} (h : BitFact P lit cur i) (a : Builtin.bitAnd lit (1 * 2 ^ ((i : Nat) : Int).toNat) ≠ 0) : cur + (i : Int) < 152 := (h.1 a).2.2
theorem and_pow (x i : Nat) : x &&& 2 ^ i = (x.testBit i).toNat * 2 ^ i := by
  apply Nat.eq_of_testBit_eq
  intro j
  rw [Nat.testBit_and, Nat.testBit_two_pow]
  cases h : x.testBit i with
  | true =>
    rw [Bool.toNat_true, Nat.one_mul, Nat.testBit_two_pow]
    by_cases e : i = j
    · subst e; simp [h]
    · simp [e]
  | false =>
    rw [Bool.toNat_false, Nat.zero_mul, Nat.zero_testBit]
    by_cases e : i = j
    · subst e; simp [h]
    · simp [e]
theorem bit_fact {P : Int → Bool} {lit cur : Int} (h0 : 0 ≤ lit) (hb : ∀ j : Nat, j < 64 → lit.toNat.testBit j = P (cur + j)) (hP : ∀ k, P k = true → 0 ≤ k ∧ k ≤ 150) {i : Nat} (hi : i < 64) : BitFact P lit cur i := by
  have e : Builtin.bitAnd lit (1 * 2 ^ ((i : Nat) : Int).toNat) = (((lit.toNat.testBit i).toNat * 2 ^ i : Nat) : Int) := by
    have e2 : (1 * 2 ^ ((i : Nat) : Int).toNat : Int) = ((2 ^ i : Nat) : Int) := by rw [Int.one_mul, Int.toNat_natCast]; norm_cast
    rw [e2, bitAnd_pp h0 (Int.natCast_nonneg _), Int.toNat_natCast, and_pow]
  unfold BitFact
  rw [e, hb i hi]
  cases hc : P (cur + i) with
  | true => exact ⟨fun _ => ⟨rfl, (hP _ hc).1, by have := (hP _ hc).2; omega⟩, fun h => by have := Nat.two_pow_pos i; rw [Bool.toNat_true, Nat.one_mul] at h; omega⟩
  | false => exact ⟨fun h => by simp at h, fun _ => rfl⟩
def BitEnd (w : World) (h₀ : Heap) (L : Addr) (m₀ : Str → Option Value) (sa : Addr) (rest : Ledger) (P : Int → Bool) (c : Int) (s₁ : Shared) (f : Flow) (s₂ : Shared) : Prop :=
  f = .next ∧ ∃ so h' tk' m', s₂ = { s₁ with heap := h', toks := tk' } ∧ Fr h₀ L h' m' ∧ (∀ z, z ≠ Str.ofString "i" → m' z = m₀ z) ∧ News h₀ L h' ((sa, so) :: rest) ∧ SetS true (ledOf w) so (upTo P c)
theorem BitEnd.add {L : Addr} {m₀ m' : Str → Option Value} {sa : Addr} {rest : Ledger} {P : Int → Bool} {lit cur : Int} {i : Nat} {s₁ : Shared} {so : Obj} {h' : Heap} {tk' : Nat} (F : Fr h₀ L h' m') (N : News h₀ L h' ((sa, so) :: rest)) (B : BitFact P lit cur i) (a : Builtin.bitAnd lit (1 * 2 ^ ((i : Nat) : Int).toNat) ≠ 0) (S : SetS true (ledOf w) so (fun j => upTo P (cur + i) j || decide (j = cur + i)))
    (hm : ∀ z, z ≠ Str.ofString "i" → m' z = m₀ z) : BitEnd w h₀ L m₀ sa rest P (cur + ((i + 1 : Nat) : Int)) s₁ .next { s₁ with heap := h', toks := tk' } :=
  ⟨rfl, so, h', tk', m', rfl, F, hm, N, S.congr fun k => by
    have hp := (B.1 a).1
    unfold upTo
    rw [Bool.eq_iff_iff]
    simp only [Bool.and_eq_true, Bool.or_eq_true, decide_eq_true_eq]
    constructor
    · rintro ⟨h1, h2⟩
      by_cases hk : k = cur + i
      · exact .inr hk
      · exact .inl ⟨h1, by omega⟩
    · rintro (⟨h1, h2⟩ | rfl)
      · exact ⟨h1, by omega⟩
      · exact ⟨hp, by omega⟩⟩
theorem BitEnd.old {L : Addr} {m₀ m' : Str → Option Value} {sa : Addr} {rest : Ledger} {P : Int → Bool} {lit cur : Int} {i : Nat} {s₁ : Shared} {so : Obj} {h' : Heap} {tk' : Nat} (F : Fr h₀ L h' m') (N : News h₀ L h' ((sa, so) :: rest)) (B : BitFact P lit cur i) (a : Builtin.bitAnd lit (1 * 2 ^ ((i : Nat) : Int).toNat) = 0) (S : SetS true (ledOf w) so (upTo P (cur + i)))
    (hm : ∀ z, z ≠ Str.ofString "i" → m' z = m₀ z) : BitEnd w h₀ L m₀ sa rest P (cur + ((i + 1 : Nat) : Int)) s₁ .next { s₁ with heap := h', toks := tk' } :=
  ⟨rfl, so, h', tk', m', rfl, F, hm, N, S.congr fun k => by
    have hp := B.2 a
    unfold upTo
    rw [Bool.eq_iff_iff]
    simp only [Bool.and_eq_true, decide_eq_true_eq]
    constructor
    · rintro ⟨h1, h2⟩
      by_cases hk : k = cur + i
      · rw [hk, hp] at h1; cases h1
      · exact ⟨h1, by omega⟩
    · rintro ⟨h1, h2⟩
      exact ⟨h1, by omega⟩⟩
theorem bit_loop {r : Addr} {t₀ u₀ v₀ : Tok} {m₀ : Str → Option Value} {sa : Addr} {so : Obj} {rest : Ledger} {P : Int → Bool} {lit cur : Int}
    (hh : A.handled = none) (hr : IsRange s.heap r 0 64 1 t₀ u₀ v₀) (F : Fr h₀ env.locals s.heap m₀) (N : News h₀ env.locals s.heap ((sa, so) :: rest)) (S : SetS true (ledOf w) so (upTo P cur)) (o1 : ∀ q ∈ rest, q.1 ≠ sa) (h0 : 0 ≤ lit) (hb : ∀ j : Nat, j < 64 → lit.toNat.testBit j = P (cur + j)) (hP : ∀ k, P k = true → 0 ≤ k ∧ k ≤ 150)
    (turn : ∀ (i : Nat) t so h tk own, i < 64 → BitFact P lit cur i → SetS true (ledOf w) so (upTo P (cur + i)) → (∀ q ∈ rest ++ own, q.1 ≠ sa) → Fr h₀ env.locals h (fun y => if y = Str.ofString "i" then some (.int (i : Int) t) else m₀ y) → News h₀ env.locals h ((sa, so) :: (rest ++ own)) →
      wpAny (model prog w) A (execs body env) (BitEnd w h₀ env.locals m₀ sa (rest ++ own) P (cur + ((i + 1 : Nat) : Int)) { s with heap := h, toks := tk }) E { s with heap := h, toks := tk })
    (done : ∀ so (u : Str → Option Value) h tk, SetS true (ledOf w) so (upTo P (cur + 64)) → Fr h₀ env.locals h (fun y => if y = Str.ofString "i" then u y else m₀ y) → News h₀ env.locals h ((sa, so) :: rest) → Q .next { s with heap := h, toks := tk }) :
    wpAny (model prog w) A (pyIter (.ref r)) (fun it s₂ => LoopAtV prog w A h₀ env (Str.ofString "i") body Q E it s₂) E s := by
  refine rng_loop (σ := Obj) (n := 64) [] (fun so => (sa, so) :: rest) (fun _ => []) (fun i so => SetS true (ledOf w) so (upTo P (cur + (i : Int)))) so hh hr rfl (by decide) F N (fun _ h => h) (fun _ => rfl) (by simp) (by simpa using S) ?_ ?_
  · intro so i t u h tk own hi hown hS F' N'
    refine wpAny_mono (turn i t so h tk own hi (bit_fact h0 hb hP hi) hS (fun q hq => ?_) F' N') (fun f s₂ hf => ?_) fun _ _ e => e
    · rcases List.mem_append.mp hq with hq | hq
      · exact o1 q hq
      · exact hown q hq sa (.head _)
    · obtain ⟨rfl, so', h', tk', m', rfl, F'', hm, N'', S''⟩ := hf
      refine RngEnd.intro so' F'' N'' (by simp) (fun z a _ _ => hm z a) (fun q hq => ?_) (fun q hq => .tail _ (List.mem_append_right _ hq)) S''
      rcases List.mem_cons.mp hq with rfl | hq
      · exact .head _
      · exact .tail _ (List.mem_append_left _ hq)
  · intro so u h tk hS F' N'
    exact done so u h tk hS F' N'
def LitEnd (w : World) (h₀ : Heap) (L : Addr) (m₀ : Str → Option Value) (sa : Addr) (rest : Ledger) (P : Int → Bool) (z : Int) (i : Nat) (s₁ : Shared) (f : Flow) (s₂ : Shared) : Prop :=
  f = .next ∧ ∃ so e1 e2 t1 t2 h' tk' m', s₂ = { s₁ with heap := h', toks := tk' } ∧ Fr h₀ L h' m' ∧ m' (Str.ofString "idx") = some (.int e1 t1) ∧ m' (Str.ofString "current_bit") = some (.int e2 t2) ∧ e1 = 1 + ((i + 1 : Nat) : Int) ∧ e2 = 64 * z + 64 * ((i + 1 : Nat) : Int) ∧
    (∀ z, z ≠ Str.ofString "_" → z ≠ Str.ofString "idx" → z ≠ Str.ofString "current_bit" → z ≠ Str.ofString "literal" → z ≠ Str.ofString "i" → m' z = m₀ z) ∧ News h₀ L h' ((sa, so) :: rest) ∧ SetS true (ledOf w) so (upTo P e2)
theorem LitEnd.intro {L : Addr} {m₀ m' : Str → Option Value} {sa : Addr} {rest : Ledger} {P : Int → Bool} {z : Int} {i : Nat} {s₁ : Shared} {so : Obj} {h' : Heap} {tk' : Nat} {e1 e2 c : Int} {t1 t2 : Tok} (F : Fr h₀ L h' m') (N : News h₀ L h' ((sa, so) :: rest)) (S : SetS true (ledOf w) so (upTo P c)) (a1 : m' (Str.ofString "idx") = some (.int e1 t1)) (a2 : m' (Str.ofString "current_bit") = some (.int e2 t2)) (b1 : e1 = 1 + ((i + 1 : Nat) : Int)) (b2 : e2 = 64 * z + 64 * ((i + 1 : Nat) : Int)) (b3 : c = e2)
    (hm : ∀ z, z ≠ Str.ofString "_" → z ≠ Str.ofString "idx" → z ≠ Str.ofString "current_bit" → z ≠ Str.ofString "literal" → z ≠ Str.ofString "i" → m' z = m₀ z) : LitEnd w h₀ L m₀ sa rest P z i s₁ .next { s₁ with heap := h', toks := tk' } :=
  ⟨rfl, so, e1, e2, t1, t2, h', tk', m', rfl, F, a1, a2, b1, b2, hm, N, b3 ▸ S⟩
theorem lit_loop {r : Addr} {b₀ : Int} {t₀ u₀ v₀ : Tok} {m₀ : Str → Option Value} {sa : Addr} {so : Obj} {rest : Ledger} {P : Int → Bool} {z n e1 e2 : Int} {t1 t2 : Tok} {ms ws : List Int}
    (hh : A.handled = none) (hr : IsRange s.heap r 0 b₀ 1 t₀ u₀ v₀) (hb : b₀ = n - z) (C : CW ws z n) (z0 : 0 ≤ z) (zn : z < n) (hn : n ≤ 3) (hlw : (ws.length : Int) = n) (F : Fr h₀ env.locals s.heap m₀) (N : News h₀ env.locals s.heap ((sa, so) :: rest)) (S : SetS true (ledOf w) so (fun _ => false)) (o1 : ∀ q ∈ rest, q.1 ≠ sa) (W : WordsP P n.toNat ws) (hP : ∀ k, P k = true → 0 ≤ k ∧ k ≤ 150) (hPn : ∀ k, P k = true → k < 64 * n)
    (hct : ∀ i : Nat, ms.getD (i + 1) 0 = ws.getD (z.toNat + i) 0)
    (a1 : m₀ (Str.ofString "idx") = some (.int e1 t1)) (a2 : m₀ (Str.ofString "current_bit") = some (.int e2 t2)) (b1 : e1 = 1) (b2 : e2 = 64 * z)
    (turn : ∀ (i : Nat) t t1 t2 so (u : Str → Option Value) h tk own, (i : Int) < n - z → SetS true (ledOf w) so (upTo P (64 * z + 64 * (i : Int))) → 0 ≤ ms.getD (1 + (i : Int)).toNat 0 → (∀ j : Nat, j < 64 → (ms.getD (1 + (i : Int)).toNat 0).toNat.testBit j = P (64 * z + 64 * (i : Int) + j)) → (∀ q ∈ rest ++ own, q.1 ≠ sa) →
      Fr h₀ env.locals h (fun y => if y = Str.ofString "_" then some (.int (i : Int) t) else if y = Str.ofString "idx" then some (.int (1 + (i : Int)) t1) else if y = Str.ofString "current_bit" then some (.int (64 * z + 64 * (i : Int)) t2) else if y = Str.ofString "literal" then u y else if y = Str.ofString "i" then u y else m₀ y) →
      News h₀ env.locals h ((sa, so) :: (rest ++ own)) →
      wpAny (model prog w) A (execs body env) (LitEnd w h₀ env.locals m₀ sa (rest ++ own) P z i { s with heap := h, toks := tk }) E { s with heap := h, toks := tk })
    (done : ∀ so t1 t2 (u : Str → Option Value) h tk, SetS true (ledOf w) so P → Fr h₀ env.locals h (fun y => if y = Str.ofString "_" then u y else if y = Str.ofString "idx" then some (.int (1 + (n - z)) t1) else if y = Str.ofString "current_bit" then some (.int (64 * n) t2) else if y = Str.ofString "literal" then u y else if y = Str.ofString "i" then u y else m₀ y) →
      News h₀ env.locals h ((sa, so) :: rest) → Q .next { s with heap := h, toks := tk }) :
    wpAny (model prog w) A (pyIter (.ref r)) (fun it s₂ => LoopAtV prog w A h₀ env (Str.ofString "_") body Q E it s₂) E s := by
  subst b1 b2
  have key : ∀ z : Str, ([Str.ofString "literal", Str.ofString "i"] : List Str).contains z = false ↔ z ≠ Str.ofString "literal" ∧ z ≠ Str.ofString "i" := by intro z; simp
  obtain ⟨k, hk⟩ := Int.eq_ofNat_of_zero_le (show 0 ≤ n - z by omega)
  obtain ⟨z', rfl⟩ := Int.eq_ofNat_of_zero_le z0
  have hnz : n.toNat = z' + k := by omega
  have start : SetS true (ledOf w) so (upTo P (64 * (z' : Int) + 64 * ((0 : Nat) : Int))) := S.congr fun j => by
    unfold upTo
    cases hp : P j with
    | false => rfl
    | true =>
      have := (hP j hp).1
      obtain ⟨q, rfl⟩ := Int.eq_ofNat_of_zero_le this
      by_cases hlt : (q : Int) < 64 * (z' : Int) + 64 * ((0 : Nat) : Int)
      · exfalso
        have h1 := (W.2 (q / 64) (by omega)).2 (q % 64)
        rw [show 64 * (q / 64) + q % 64 = q by omega, hp] at h1
        have h2 := C.1 ((q / 64 : Nat) : Int) (by omega) (by omega)
        rw [Int.toNat_natCast] at h2
        rw [h2] at h1
        have : q % 64 < 64 := by omega
        simp [this] at h1
      · simp only [decide_eq_false hlt, Bool.and_false]
  refine rng_loop (σ := Obj × Nat × Tok × Tok) (n := k) [Str.ofString "literal", Str.ofString "i"] (fun c => (sa, c.1) :: rest) (fun c => [(Str.ofString "idx", .int (1 + (c.2.1 : Int)) c.2.2.1), (Str.ofString "current_bit", .int (64 * (z' : Int) + 64 * (c.2.1 : Int)) c.2.2.2)])
    (fun i c => c.2.1 = i ∧ SetS true (ledOf w) c.1 (upTo P (64 * (z' : Int) + 64 * (i : Int)))) (so, 0, t1, t2) hh hr (by omega) (by omega) F N (fun _ h => h) (fun _ => rfl) ?_ ⟨rfl, start⟩ ?_ ?_
  · intro p hp
    rcases List.mem_cons.mp hp with rfl | hp
    · simpa using a1
    · rw [List.mem_singleton.mp hp]; simpa using a2
  · rintro ⟨so, i', t1, t2⟩ i t u h tk own hi hown ⟨e, hS⟩ F' N'
    dsimp only at e
    subst e
    have hz1 : (ms.getD (1 + (i' : Int)).toNat 0) = ws.getD (z' + i') 0 := by
      have := hct i'
      rw [show (1 + (i' : Int)).toNat = i' + 1 by omega, this]; congr 1
    have hw := W.2 (z' + i') (by omega)
    refine wpAny_mono (turn i' t t1 t2 so u h tk own (by omega) hS (by rw [hz1]; exact hw.1) (fun j hj => ?_) (fun q hq => ?_) F' N') (fun f s₂ hf => ?_) fun _ _ e => e
    · rw [hz1, hw.2 j]
      simp only [hj, decide_true, Bool.true_and]
      congr 1
      push_cast
      omega
    · rcases List.mem_append.mp hq with hq | hq
      · exact o1 q hq
      · exact hown q hq sa (.head _)
    · obtain ⟨rfl, so', e1, e2, t1', t2', h', tk', m', rfl, F'', q1, q2, q3, q4, hm, N'', S''⟩ := hf
      subst q3 q4
      refine RngEnd.intro (so', i' + 1, t1', t2') F'' N'' (fun p hp => ?_) (fun y a b c => ?_) (fun q hq => ?_) (fun q hq => .tail _ (List.mem_append_right _ hq)) ⟨rfl, S''⟩
      · rcases List.mem_cons.mp hp with rfl | hp
        · exact q1
        · rw [List.mem_singleton.mp hp]; exact q2
      · exact hm y a (b _ (.head _)) (b _ (.tail _ (.head _))) ((key y).mp c).1 ((key y).mp c).2
      · rcases List.mem_cons.mp hq with rfl | hq
        · exact .head _
        · exact .tail _ (List.mem_append_left _ hq)
  · rintro ⟨so, i', t1, t2⟩ u h tk ⟨e, hS⟩ F' N'
    dsimp only at e
    subst e
    have hc : (64 * (z' : Int) + 64 * (i' : Int)) = 64 * n := by omega
    have hc2 : (1 + (i' : Int)) = 1 + (n - (z' : Int)) := by omega
    refine done so t1 t2 u h tk (hS.congr fun q => ?_) ?_ N'
    · unfold upTo
      rw [hc]
      cases hp : P q with
      | false => rfl
      | true =>
        have h0 := (hP q hp).1
        obtain ⟨j, rfl⟩ := Int.eq_ofNat_of_zero_le h0
        by_cases hlt : (j : Int) < 64 * n
        · simp [hlt]
        · exfalso
          exact hlt (hPn j hp)
    · dsimp only [kstB, forget] at F'
      rw [hc, hc2] at F'
      exact F'
end
end Mine
namespace Mine
def rlwI (k z : Int) : Int := 8589934592 * k + 2 * z
def rlwS (k z : Int) : Int := 4294967296 * k + z
section
variable {prog : Program} {w : World} {A : Around} {E : Value → Shared → Prop} {s : Shared} {Q : Value → Shared → Prop} {r k z : Int} {t u : Tok}
theorem item_rlw {value slice : Expr} {l : Addr} {vs : List Value} {ns : List Int} {u : Tok} (hl : s.heap.IsList l vs.toArray) (hi : IntsAre vs ns) (hr : ns.getD (Int.toNat 0) 0 = rlwI k z) (h1 : 0 < (ns.length : Int)) (h : ∀ t, Q (.int (rlwI k z) t) s)
    (hs : subscripted slice false (.ref l) (.int 0 u) = operate [.ref l, .int 0 u] (getItem (.ref l) (.int 0 u)) := by with_unfolding_all rfl) :
    wpAny (model prog w) A (subscriptTail value slice (.ref l) (.int 0 u)) Q E s :=
  item_anyK hl hi (by decide) h1 (by decide) (by rw [hr]; exact h) hs
theorem rl_and1 (hk0 : 0 ≤ k) (hk1 : k ≤ 3) (hz0 : 0 ≤ z) (hz1 : z ≤ 3) (hQ : Q (.int 0 s.toks) { s with toks := s.toks + 1 }) : wpAny (model prog w) A (binaryOp .BitAnd (.int (rlwI k z) t) (.int 1 u)) Q E s := by
  refine and_int ?_
  have e : Builtin.bitAnd (rlwI k z) 1 = 0 := by
    unfold rlwI
    rw [bitAnd_pp (by omega) (by decide), show (1 : Int).toNat = 1 from rfl, Nat.and_one_is_mod]; omega
  rw [e]; exact hQ
theorem rl_mask (hk0 : 0 ≤ k) (hk1 : k ≤ 3) (hz0 : 0 ≤ z) (hz1 : z ≤ 3) (hQ : Q (.int z s.toks) { s with toks := s.toks + 1 }) : wpAny (model prog w) A (binaryOp .BitAnd (.int (rlwS k z) t) (.int 4294967295 u)) Q E s := by
  refine and_int ?_
  have e : Builtin.bitAnd (rlwS k z) 4294967295 = z := by
    unfold rlwS
    rw [bitAnd_pp (by omega) (by decide), show (4294967295 : Int).toNat = 2 ^ 32 - 1 from rfl, Nat.and_two_pow_sub_one_eq_mod]; omega
  rw [e]; exact hQ
theorem rl_shr1 (hk0 : 0 ≤ k) (hk1 : k ≤ 3) (hz0 : 0 ≤ z) (hz1 : z ≤ 3) (hQ : Q (.int (rlwS k z) s.toks) { s with toks := s.toks + 1 }) : wpAny (model prog w) A (binaryOp .RShift (.int (rlwI k z) t) (.int 1 u)) Q E s := by
  refine rshift_int (by decide) ?_
  have e : (rlwI k z).fdiv (2 ^ (1 : Int).toNat) = rlwS k z := by
    unfold rlwI rlwS
    have e2 : (2 : Int) ^ (1 : Int).toNat = 2 := by decide +kernel
    rw [e2, Int.fdiv_eq_ediv_of_nonneg _ (by omega)]; omega
  rw [e]; exact hQ
theorem rl_shr33 (hk0 : 0 ≤ k) (hk1 : k ≤ 3) (hz0 : 0 ≤ z) (hz1 : z ≤ 3) (hQ : Q (.int k s.toks) { s with toks := s.toks + 1 }) : wpAny (model prog w) A (binaryOp .RShift (.int (rlwI k z) t) (.int 33 u)) Q E s := by
  refine rshift_int (by decide) ?_
  have e : (rlwI k z).fdiv (2 ^ (33 : Int).toNat) = k := by
    unfold rlwI
    have e2 : (2 : Int) ^ (33 : Int).toNat = 8589934592 := by decide +kernel
    rw [e2, Int.fdiv_eq_ediv_of_nonneg _ (by omega)]; omega
  rw [e]; exact hQ
end
section
variable {M : Model} {A : Around} {E : Value → Shared → Prop} {s : Shared} {h₀ : Heap} {L : Addr} {m : Str → Option Value} {led : Ledger}
def CurEnd (h₀ : Heap) (L : Addr) (m : Str → Option Value) (led : Ledger) (z : Int) (s₁ : Shared) (f : Flow) (s₂ : Shared) : Prop :=
  f = .next ∧ ∃ e t h' tk' m', s₂ = { s₁ with heap := h', toks := tk' } ∧ Fr h₀ L h' m' ∧ m' (Str.ofString "current_bit") = some (.int e t) ∧ e = 64 * z ∧ (∀ y, y ≠ Str.ofString "current_bit" → y ≠ Str.ofString "run_bits" → m' y = m y) ∧ News h₀ L h' led
theorem CurEnd.intro {m' : Str → Option Value} {z e : Int} {t : Tok} {s₁ : Shared} {h' : Heap} {tk' : Nat} (F : Fr h₀ L h' m') (N : News h₀ L h' led) (h1 : m' (Str.ofString "current_bit") = some (.int e t)) (h2 : e = 64 * z) (h3 : ∀ y, y ≠ Str.ofString "current_bit" → y ≠ Str.ofString "run_bits" → m' y = m y) :
    CurEnd h₀ L m led z s₁ .next { s₁ with heap := h', toks := tk' } := ⟨rfl, e, t, h', tk', m', rfl, F, h1, h2, h3, N⟩
theorem cur_join {t : Sem Flow} {Q : Flow → Shared → Prop} {ws : List Int} {z n : Int} (C : CW ws z n) (F : Fr h₀ L s.heap m) (N : News h₀ L s.heap led)
    (h1 : wpAny M A t (CurEnd h₀ L m led z s) E s)
    (h2 : ∀ t (u : Str → Option Value) h' tk', Fr h₀ L h' (fun y => if y = Str.ofString "current_bit" then some (.int (64 * z) t) else if y = Str.ofString "run_bits" then u y else m y) → News h₀ L h' led → Q .next { s with heap := h', toks := tk' }) : wpAny M A t Q E s :=
  wpAny_mono h1 (fun f s₂ hf => by
    obtain ⟨rfl, e, t', h', tk', m', rfl, F', a, rfl, b, N'⟩ := hf
    refine h2 t' m' h' tk' ?_ N'
    have em : (fun y => if y = Str.ofString "current_bit" then some (Value.int (64 * z) t') else if y = Str.ofString "run_bits" then m' y else m y) = m' := by
      funext y
      by_cases c1 : y = Str.ofString "current_bit"
      · rw [if_pos c1, c1, a]
      · rw [if_neg c1]
        by_cases c2 : y = Str.ofString "run_bits"
        · rw [if_pos c2]
        · rw [if_neg c2, b y c1 c2]
    rw [em]; exact F') fun _ _ e => e
end
end Mine
end
section
open PySem PySem.W PyProof.Rows
set_option maxRecDepth 100000
set_option maxHeartbeats 4000000
namespace Mine
local macro_rules | `(tactic| walk_at "call type:set nil nil") => `(tactic| (k_here; k_dflt (refine set_new (by k_asm) (by k_asm) ?_); intro d' o' h' F' N' l1 hs'; (try k_lt l1)))
local macro_rules | `(tactic| k_room) => `(tactic| ktr_room)
local macro_rules | `(tactic| k_mem) => `(tactic| ((fail_if_success (refine' List.Mem.tail _ ?_)); assumption))
local macro_rules | `(tactic| k_units) => `(tactic| ktr_units)
local macro_rules | `(tactic| k_enter) => `(tactic| first
  | (refine' code_def ?k1 ?k2 ?k3 ?k4 ?k5 ?kA ?kF ?kK ?k6 ?k7 ?k8 ?k9 ?kB ?_ ?c2 ?c3 ?c4 ?c5; (case kA => exact rfl); (case kF => exact rfl); (case kK => first | assumption | exact rfl); (case k1 => k_asm); (case k2 => k_asm); (case k3 => k_asm); (case k4 => k_asm); (case k5 => k_asm); (case k6 => k_is); (case k7 => k_is); (case k8 => ktr_room); (case k9 => first | exact BindsTo.of_eq rfl | exact binds_K (by k_in) rfl (by k_is) rfl rfl rfl); (case c5 => decide); (case kB => exact locs rfl); (case c2 => exact rfl); (case c3 => exact rfl); (case c4 => exact rfl); k_whole; intro g' L' h' FG' F' N' B' X' T'; (try dsimp only); (try k_lift B'); (try k_fold))
  | (refine' code_defC ?k1 ?k2 ?k3 ?k4 ?k5 ?kA ?kF ?kK ?k6 ?k7 ?k8 ?k9 ?kB ?kD ?_ ?c2 ?c3 ?c4; (case kA => exact rfl); (case kF => exact rfl); (case kK => first | assumption | exact rfl); (case k1 => k_asm); (case k2 => k_asm); (case k3 => k_asm); (case k4 => k_asm); (case k5 => k_asm); (case k6 => k_is); (case k7 => k_is); (case k8 => ktr_room); (case k9 => first | exact BindsTo.of_eq rfl | exact binds_K (by k_in) rfl (by k_is) rfl rfl rfl); (case kB => exact rfl); (case kD => decide +kernel); (case c2 => exact rfl); (case c3 => exact rfl); (case c4 => exact rfl); k_whole; intro g' L' h' tk' cells' FG' F' N' Y' B' X' T' l1; (try k_lt l1); k_cells Y'; (try simp only [List.cons_append, List.nil_append] at N'); (try dsimp only); (try k_lift B'); (try k_fold)))
theorem dec_drop {h₀ h : Heap} {L : Addr} {a b c d e f : Addr × Obj} {r : Ledger} (N : News h₀ L h (a :: b :: c :: d :: e :: f :: r)) : News h₀ L h (a :: e :: f :: r) := fun p hp => N p (by
  rcases List.mem_cons.mp hp with rfl | hp
  · exact .head _
  · exact .tail _ (.tail _ (.tail _ (.tail _ hp))))
local macro_rules | `(tactic| walk_at "dec_val") => `(tactic| first | exact val_a (by assumption) (by omega) (by omega) (by omega) (by omega) | exact val_l (by assumption) (by omega) (by omega) (by omega) | exact val_c (by assumption) (by assumption) (by assumption) (by omega) (by omega))
local macro_rules | `(tactic| walk_at "ite") => `(tactic| (first | (refine ite_pos (by (rw [decide_eq_true_eq]; omega)) ?_) | (refine ite_neg (by (rw [decide_eq_true_eq]; omega)) ?_) | (refine ite_beq_neg (by omega) ?_) | (refine ite_beq_pos (by omega) ?_)))
local macro_rules | `(tactic| walk_at "execs cons") => `(tactic| (k_here; (with_reducible refine gen_toks1 ?_); intro tk))
local macro_rules | `(tactic| walk_at "execs nil") => `(tactic| (k_here; (with_reducible refine gen_toks1 ?_); intro tk))
local macro_rules | `(tactic| walk_at "subscriptTail") => `(tactic| (k_here; (with_reducible show wpAny _ _ (subscriptTail _ (Expr.Slice _ _ none _) (Value.bytes _ _) (Value.ref _)) _ _ _); (with_reducible rename Fr _ _ _ _ => F'); (with_reducible rename News _ _ _ _ => N'); (refine slc_K (s := ⟨_, _, _, _, _⟩) F' N' (by assumption) (by omega) (by omega) (by omega) (by omega) ?_); intro d' h' t' k' F' N' hd' hdl'))
local macro_rules | `(tactic| walk_at "call ref") => `(tactic| (k_here; (with_reducible show wpAny _ _ (call (Value.ref _) [Value.bytes _ _, Value.str _ _]) _ _ _); kfb_any; k_dflt (refine from_K (by k_asm) (by k_mem) (by assumption) (by omega) (by walk_at "dec_val") ?_); intro t' k'))
local macro_rules | `(tactic| walk_at "exec For Name Call cons nil") => `(tactic| (k_here; (rename Fr _ _ _ _ => lF'); (with_unfolding_all refine' For_invVF lF' ?k1 ?k2 ?_; (case k1 => exact rfl); (case k2 => exact rfl); k_whole)))
local macro_rules | `(tactic| walk_at "execs cons Assign cons") => `(tactic| ((with_reducible show wpAny _ _ (execs (Stmt.Assign [Expr.Name _ _] (Expr.List [] _) _ :: Stmt.For _ _ _ _ _ :: _) _) _ _ _); refine wpAny_execs_cons ?_))
local macro_rules | `(tactic| walk_at "last_lt") => `(tactic| (with_reducible (first | assumption | exact And.right (by assumption) | exact And.right (And.right (by assumption)) | exact And.right (And.right (And.right (by assumption))) | exact And.right (And.right (And.right (And.right (by assumption)))) | exact And.right (And.right (And.right (And.right (And.right (by assumption))))) | exact And.right (And.right (And.right (And.right (And.right (And.right (by assumption)))))) | exact And.right (And.right (And.right (And.right (And.right (And.right (And.right (by assumption))))))) | exact And.right (And.right (And.right (And.right (And.right (And.right (And.right (And.right (by assumption)))))))) | exact And.right (And.right (And.right (And.right (And.right (And.right (And.right (And.right (And.right (by assumption))))))))) | exact And.right (And.right (And.right (And.right (And.right (And.right (And.right (And.right (And.right (And.right (by assumption)))))))))))))
local macro_rules | `(tactic| k_all) => `(tactic| with_reducible assumption)
local macro_rules | `(tactic| walk_at "call type:range") => `(tactic| ((rename Fr _ _ _ _ => F'); (rename News _ _ _ _ => N'); (with_unfolding_all refine range1_rows F' N' ?_; intro _ _ _ _ _ _ _ _ _)))
local macro_rules | `(tactic| walk_at "pyIter ref") => `(tactic| ((with_reducible show wpAny _ _ (pyIter _) (fun it s₂ => LoopAtV _ _ _ _ _ (Str.ofString "_") (Stmt.Assign _ _ _ :: _) _ _ it s₂) _ _); (k_dflt (refine' read_loop ?hS ?hh ?hr ?hb ?hl ?F ?N ?g1 ?g2 ?g3 ?g4 ?g5 ?g6 ?o1 ?o2 ?hsub ?hp0 ?_ ?_; (case hS => assumption); (case hh => exact rfl); (case hr => k_asm); (case hb => exact rfl); (case hl => omega); (case F => k_asm); (case N => k_asm); (case g6 => k_mem); (case g1 => k_mem); (case g2 => k_mem); (case g3 => k_mem); (case g4 => k_mem); (case g5 => k_mem); (case o1 => walk_at "last_lt"); (case o2 => walk_at "last_lt"); (case hsub => exact fun p hp => by (repeat (first | exact hp | apply List.Mem.tail))); (case hp0 => omega))); (intro i t ys ny p tp u h tk own hi hp hys hyl o1 o2 F' N'); rotate_left; (intro ys ny p tp u h tk hp hys F' N'); (have hyl := IntsAre.length hys); (try dsimp only); rotate_left))
local macro_rules | `(tactic| walk_at "RdEnd") => `(tactic| ((rename News _ _ _ _ => nE'); (try simp only [List.push_toArray] at nE'); exact RdEnd.intro (by assumption) nE' (by k_mem) (by k_mem) (by k_mem) (by k_mem) (by k_mem) (by k_mem) (by assumption) (by assumption) (by (intro z h1 h2 h3; simp [h1, h2, h3])) (by omega) (fun q hq => by (repeat (first | exact List.mem_append_left _ hq | apply List.Mem.tail))) (fun q hq => by (repeat (first | exact List.mem_append_right _ hq | apply List.Mem.tail)))))
local macro_rules | `(tactic| walk_at "wh_dec") => `(tactic| ((try simp) <;> omega))
local macro_rules | `(tactic| walk_at "exec While Compare cons nil") => `(tactic| (k_here; k_dflt (refine whl_start 2 ?_)))
local macro_rules | `(tactic| walk_at "WhlIf") => `(tactic| (first | (refine WhlIf.yes (decide_eq_true (by omega)) ?_) | (refine WhlIf.no (decide_eq_false (by omega)) ?_)))
local macro_rules | `(tactic| walk_at "binaryOp BitAnd int int") => `(tactic| (k_here; (with_reducible show wpAny _ _ (binaryOp _ (Value.int (rlwS _ _) _) _) _ _ _); (with_reducible refine rl_mask (by omega) (by omega) (by omega) (by omega) ?_)))
local macro_rules | `(tactic| walk_at "binaryOp BitAnd int int") => `(tactic| (k_here; (with_reducible show wpAny _ _ (binaryOp _ (Value.int (rlwI _ _) _) _) _ _ _); (with_reducible refine rl_and1 (by omega) (by omega) (by omega) (by omega) ?_)))
local macro_rules | `(tactic| walk_at "binaryOp RShift int int") => `(tactic| (k_here; (with_reducible show wpAny _ _ (binaryOp _ (Value.int (rlwI _ _) _) (Value.int 33 _)) _ _ _); (with_reducible refine rl_shr33 (by omega) (by omega) (by omega) (by omega) ?_)))
local macro_rules | `(tactic| walk_at "binaryOp RShift int int") => `(tactic| (k_here; (with_reducible show wpAny _ _ (binaryOp _ (Value.int (rlwI _ _) _) (Value.int 1 _)) _ _ _); (with_reducible refine rl_shr1 (by omega) (by omega) (by omega) (by omega) ?_)))
local macro_rules | `(tactic| walk_at "call builtin:len") => `(tactic| (k_here; (with_reducible show wpAny _ _ (call (Value.builtin "len") [Value.ref _]) _ _ _); (with_unfolding_all refine' len_ints_fit (newsList ?k0 ?k1) ?k2 ?k3 ?_; (case k0 => k_asm); (case k1 => k_mem); (case k2 => with_reducible assumption); (case k3 => omega); k_whole)))
local macro_rules | `(tactic| walk_at "subscriptTail") => `(tactic| (k_here; (with_reducible show wpAny _ _ (subscriptTail _ _ (Value.ref _) (Value.int _ _)) _ _ _); (with_unfolding_all refine' item_anyK (newsList ?k0 ?k1) ?k2 ?k3 ?k4 ?k5 ?_ ?k6; (case k0 => k_asm); (case k1 => k_mem); (case k2 => with_reducible assumption); (case k3 => omega); (case k4 => omega); (case k5 => omega); (case k6 => with_unfolding_all rfl); k_whole); intro _))
local macro_rules | `(tactic| walk_at "subscriptTail") => `(tactic| (k_here; (with_reducible show wpAny _ _ (subscriptTail _ _ (Value.ref _) (Value.int 0 _)) _ _ _); (with_unfolding_all refine' item_rlw (newsList ?k0 ?k1) ?k2 ?k3 ?k4 ?_ ?k6; (case k0 => k_asm); (case k1 => k_mem); (case k2 => with_reducible assumption); (case k3 => with_reducible assumption); (case k4 => omega); (case k6 => with_unfolding_all rfl); k_whole); intro _))
local macro_rules | `(tactic| walk_at "subscriptTail Name Name ref int") => `(tactic| (k_here; (with_reducible show wpAny _ _ (subscriptTail _ _ (Value.ref _) (Value.int 0 _)) _ _ _); (with_unfolding_all refine' item_rlw (newsList ?k0 ?k1) ?k2 ?k3 ?k4 ?_ ?k6; (case k0 => k_asm); (case k1 => k_mem); (case k2 => with_reducible assumption); (case k3 => with_reducible assumption); (case k4 => omega); (case k6 => with_unfolding_all rfl); k_whole); intro _))
local macro_rules | `(tactic| walk_at "exec If") => `(tactic| ((with_reducible show wpAny _ _ (exec (Stmt.If _ [Stmt.Assign _ _ _, Stmt.If _ _ _ _, Stmt.If _ _ _ _, Stmt.AugAssign _ _ _ _] [] _) _) _ _ _); (fail_if_success (with_reducible show wpAny _ _ _ (CurEnd _ _ _ _ _ _) _ _)); (k_dflt (refine' cur_join ?C ?F ?N ?_ ?_; (case C => assumption); (case F => k_asm); (case N => k_asm))); rotate_left; (intro t u h' tk' F' N'); (try dsimp only); rotate_left))
local macro_rules | `(tactic| walk_at "CurEnd") => `(tactic| exact CurEnd.intro (by assumption) (by assumption) rfl (by omega) (by (intro y h1 h2; simp [h1, h2])))
local macro_rules | `(tactic| walk_at "pyIter ref") => `(tactic| ((with_reducible show wpAny _ _ (pyIter _) (fun it s₂ => LoopAtV _ _ _ _ _ (Str.ofString "_") (Stmt.If _ _ _ _ :: _) _ _ it s₂) _ _); (k_dflt (refine' lit_loop ?hh ?hr ?hb ?C ?z0 ?zn ?hn ?hlw ?F ?N ?S ?o1 ?W ?hP ?hPn ?hct ?a1 ?a2 ?b1 ?b2 ?_ ?_; (case hh => exact rfl); (case hr => k_asm); (case C => assumption); (case hb => exact rfl); (case z0 => assumption); (case zn => assumption); (case hn => assumption); (case F => k_asm); (case N => k_asm); (case S => assumption); (case hlw => assumption); (case o1 => (intro q hq; simp only [List.mem_cons] at hq; rcases hq with h | h | h | h | h | h <;> first | (subst h; show @Ne Nat _ _; omega) | (exact Nat.ne_of_lt (kst_ltOf (by walk_at "last_lt") q h)))); (case W => assumption); (case hP => assumption); (case hPn => assumption); (case hct => assumption); (case a1 => exact rfl); (case a2 => exact rfl); (case b1 => omega); (case b2 => omega))); (intro i t t1 t2 so u h tk own hi hS hl0 hlb o1 F' N'); rotate_left; (intro so t1 t2 u h tk hS F' N'); (try dsimp only); rotate_left; (simp only [List.cons_append] at N' o1)))
local macro_rules | `(tactic| walk_at "LitEnd") => `(tactic| exact LitEnd.intro (by assumption) (by assumption) (by assumption) rfl rfl (by omega) (by omega) (by omega) (by (intro z h1 h2 h3 h4 h5; simp [h1, h2, h3, h4, h5])))
local macro_rules | `(tactic| walk_at "pyIter ref") => `(tactic| ((with_reducible show wpAny _ _ (pyIter _) (fun it s₂ => LoopAtV _ _ _ _ _ (Str.ofString "i") _ _ _ it s₂) _ _); (k_dflt (refine' bit_loop ?hh ?hr ?F ?N ?S ?o1 ?h0 ?hb ?hP ?_ ?_; (case hh => exact rfl); (case hr => k_asm); (case F => k_asm); (case N => k_asm); (case S => assumption); (case o1 => assumption); (case h0 => assumption); (case hb => assumption); (case hP => assumption))); (intro i t so h tk own hi hB hS o1 F' N'); rotate_left; (intro so u h tk hS F' N'); (try dsimp only); rotate_left; (simp only [List.cons_append] at N' o1)))
local macro_rules | `(tactic| walk_at "BitEnd") => `(tactic| (simp only [← List.cons_append]; first | exact BitEnd.add (by assumption) (by assumption) (by assumption) (by assumption) (by assumption) (by (intro z h1; simp [h1])) | exact BitEnd.old (by assumption) (by assumption) (by assumption) (by assumption) (by assumption) (by (intro z h1; simp [h1]))))
local macro_rules | `(tactic| walk_at "getMethod ref") => `(tactic| (k_here; (with_reducible show wpAny _ _ (getMethod (Value.ref _) (Str.ofString "add") _) _ _ _); k_dflt (refine' set_method ?N ?a ?A ?_; (case N => k_asm); (case a => k_mem); (case A => assumption); k_whole)))
local macro_rules | `(tactic| walk_at "call builtin:set.add") => `(tactic| (k_here; (with_reducible show wpAny _ _ (call (Value.builtin "set.add") [Value.ref _, Value.int _ _]) _ _ _); k_dflt (refine' set_add ?F ?N ?U ?d ?b0 ?b1 ?_; (case F => k_asm); (case N => k_asm); (case U => k_updF); (case d => assumption); (case b0 => exact BitFact.lo (by assumption) (by assumption)); (case b1 => exact BitFact.hi (by assumption) (by assumption)); k_whole); intro h' o' F' N' hs'; (try dsimp only at N')))
theorem bm_decode1 (w : World) (mean : ExcName → Option Value) (mg mb : Str → Option Value) (dp un : Nat) (gd : Option (List Code)) (cn : Str) (cs : Scope) (a : Addr) (ccd : Value) (cl : List (Str × Addr)) (outer : List Env) (A₀ : Around) (base h₀ : Heap) (L : Addr) (m : Str → Option Value) (news : Ledger) (s : Shared) (Q E : Value → Shared → Prop)
    (B : Below A₀ base outer h₀) (F : Fr h₀ L s.heap m) (X : (Mine.hd.heap_39 w.params).In h₀) (N : News h₀ L s.heap news) (T : Top Mine.hd.view_39 (looseW Mine.hd.view_39 [Str.ofString "struct", Str.ofString "BytesIO"]) mean mg mb h₀) (hk : cs.kind = .function) (hd : dp + 20 < recursionLimit) (hu : un + 200 < cLine)
    (D : Array UInt8) (t : Tok) (P : Int → Bool) (ks ms ws : List Int) (mx z n : Int) (hD : KBw.bInts D = ks) (K : DecKs ks (mx + 1) ms) (hkl : (ks.length : Int) = 12 + 8 * ms.length) (hcs : ms.getD (Int.toNat 0) 0 = rlwI (n - z) z) (hct : ∀ i : Nat, ms.getD (i + 1) 0 = ws.getD (z.toNat + i) 0) (hcl : (ms.length : Int) = n - z + 1) (hcc : ∀ c ∈ ms, 0 ≤ c ∧ c < 18446744073709551616)
    (C : CW ws z n) (z0 : 0 ≤ z) (zn : z < n) (hn : n ≤ 3) (hlw : (ws.length : Int) = n) (hm0 : 0 ≤ mx) (hm1 : mx ≤ 150) (hmn : (mx + 1 + 63).fdiv 64 = n) (W : WordsP P n.toNat ws) (hP : ∀ j, P j = true → 0 ≤ j ∧ j ≤ 150) (hPn : ∀ k, P k = true → k < 64 * n)
    (hret : ∀ (x dx sa : Addr) (so : Obj) (t1 t2 t3 : Tok) (c : Int) (h' : Heap) (tk' : Nat), Fr h₀ L h' m → News h₀ L h' ((sa, so) :: (x, instObj 173 dx) :: (dx, bmDict w t1 t2 sa c t3) :: news) →
      AllLt dx news → @LT.lt Nat _ dx x → @LT.lt Nat _ x sa → SetS true (ledOf w) so P → Q (.ref x) { s with heap := h', toks := tk' }) :
    wpAny (model Challenge.rw_bh0020_01.row.prog w) (ktrTop dp un gd cn cs L a ccd cl outer) (call (.ref 173) [.bytes D t]) Q E s := by
  w_top off
  k_with_none
  have hfill : Challenge.rw_bh0020_01 = Challenge.rw_bh0020_01 ∧ (Mine.hd.heap_39 w.params).In h₀ := ⟨rfl, X⟩
  revert hfill
  k_fill
  intro hfill
  clear hfill
  k_steps
  exact hret _ _ _ _ _ _ _ _ _ _ (by assumption) (dec_drop (by assumption)) (allLt_of (by assumption)) (by omega) (by omega) (by assumption)
end Mine
end
section
open PySem PySem.W PyProof.Rows
set_option maxRecDepth 100000
set_option maxHeartbeats 4000000
namespace Mine
local macro_rules | `(tactic| walk_at "pad 0") => `(tactic| skip)
local macro_rules | `(tactic| walk_at "call type:set nil nil") => `(tactic| (k_here; k_dflt (refine set_new (by k_asm) (by k_asm) ?_); intro d' o' h' F' N' l1 hs'; (try k_lt l1)))
local macro_rules | `(tactic| k_room) => `(tactic| ktr_room)
local macro_rules | `(tactic| k_mem) => `(tactic| ((fail_if_success (refine' List.Mem.tail _ ?_)); assumption))
local macro_rules | `(tactic| k_units) => `(tactic| ktr_units)
local macro_rules | `(tactic| k_enter) => `(tactic| first
  | (refine' code_def ?k1 ?k2 ?k3 ?k4 ?k5 ?kA ?kF ?kK ?k6 ?k7 ?k8 ?k9 ?kB ?_ ?c2 ?c3 ?c4 ?c5; (case kA => exact rfl); (case kF => exact rfl); (case kK => first | assumption | exact rfl); (case k1 => k_asm); (case k2 => k_asm); (case k3 => k_asm); (case k4 => k_asm); (case k5 => k_asm); (case k6 => k_is); (case k7 => k_is); (case k8 => ktr_room); (case k9 => first | exact BindsTo.of_eq rfl | exact binds_K (by k_in) rfl (by k_is) rfl rfl rfl); (case c5 => decide); (case kB => exact locs rfl); (case c2 => exact rfl); (case c3 => exact rfl); (case c4 => exact rfl); k_whole; intro g' L' h' FG' F' N' B' X' T'; (try dsimp only); (try k_lift B'); (try k_fold))
  | (refine' code_defC ?k1 ?k2 ?k3 ?k4 ?k5 ?kA ?kF ?kK ?k6 ?k7 ?k8 ?k9 ?kB ?kD ?_ ?c2 ?c3 ?c4; (case kA => exact rfl); (case kF => exact rfl); (case kK => first | assumption | exact rfl); (case k1 => k_asm); (case k2 => k_asm); (case k3 => k_asm); (case k4 => k_asm); (case k5 => k_asm); (case k6 => k_is); (case k7 => k_is); (case k8 => ktr_room); (case k9 => first | exact BindsTo.of_eq rfl | exact binds_K (by k_in) rfl (by k_is) rfl rfl rfl); (case kB => exact rfl); (case kD => decide +kernel); (case c2 => exact rfl); (case c3 => exact rfl); (case c4 => exact rfl); k_whole; intro g' L' h' tk' cells' FG' F' N' Y' B' X' T' l1; (try k_lt l1); k_cells Y'; (try simp only [List.cons_append, List.nil_append] at N'); (try dsimp only); (try k_lift B'); (try k_fold)))
local macro_rules | `(tactic| walk_at "dec_val") => `(tactic| first | exact val_a (by assumption) (by omega) (by omega) (by omega) (by omega) | exact val_l (by assumption) (by omega) (by omega) (by omega) | exact val_c (by assumption) (by assumption) (by assumption) (by omega) (by omega))
local macro_rules | `(tactic| walk_at "ite") => `(tactic| (first | (refine ite_pos (by (rw [decide_eq_true_eq]; omega)) ?_) | (refine ite_neg (by (rw [decide_eq_true_eq]; omega)) ?_) | (refine ite_beq_neg (by omega) ?_) | (refine ite_beq_pos (by omega) ?_)))
local macro_rules | `(tactic| walk_at "execs cons") => `(tactic| (k_here; (with_reducible refine gen_toks1 ?_); intro tk))
local macro_rules | `(tactic| walk_at "execs nil") => `(tactic| (k_here; (with_reducible refine gen_toks1 ?_); intro tk))
local macro_rules | `(tactic| walk_at "subscriptTail") => `(tactic| (k_here; (with_reducible show wpAny _ _ (subscriptTail _ (Expr.Slice _ _ none _) (Value.bytes _ _) (Value.ref _)) _ _ _); (with_reducible rename Fr _ _ _ _ => F'); (with_reducible rename News _ _ _ _ => N'); (refine slc_K (s := ⟨_, _, _, _, _⟩) F' N' (by assumption) (by omega) (by omega) (by omega) (by omega) ?_); intro d' h' t' k' F' N' hd' hdl'))
local macro_rules | `(tactic| walk_at "call ref") => `(tactic| (k_here; (with_reducible show wpAny _ _ (call (Value.ref _) [Value.bytes _ _, Value.str _ _]) _ _ _); kfb_any; k_dflt (refine from_K (by k_asm) (by k_mem) (by assumption) (by omega) (by walk_at "dec_val") ?_); intro t' k'))
local macro_rules | `(tactic| walk_at "exec For Name Call cons nil") => `(tactic| (k_here; (rename Fr _ _ _ _ => lF'); (with_unfolding_all refine' For_invVF lF' ?k1 ?k2 ?_; (case k1 => exact rfl); (case k2 => exact rfl); k_whole)))
local macro_rules | `(tactic| walk_at "execs cons Assign cons") => `(tactic| ((with_reducible show wpAny _ _ (execs (Stmt.Assign [Expr.Name _ _] (Expr.List [] _) _ :: Stmt.For _ _ _ _ _ :: _) _) _ _ _); refine wpAny_execs_cons ?_))
local macro_rules | `(tactic| walk_at "last_lt") => `(tactic| (with_reducible (first | assumption | exact And.right (by assumption) | exact And.right (And.right (by assumption)) | exact And.right (And.right (And.right (by assumption))) | exact And.right (And.right (And.right (And.right (by assumption)))) | exact And.right (And.right (And.right (And.right (And.right (by assumption))))) | exact And.right (And.right (And.right (And.right (And.right (And.right (by assumption)))))) | exact And.right (And.right (And.right (And.right (And.right (And.right (And.right (by assumption))))))) | exact And.right (And.right (And.right (And.right (And.right (And.right (And.right (And.right (by assumption)))))))) | exact And.right (And.right (And.right (And.right (And.right (And.right (And.right (And.right (And.right (by assumption))))))))) | exact And.right (And.right (And.right (And.right (And.right (And.right (And.right (And.right (And.right (And.right (by assumption)))))))))))))
local macro_rules | `(tactic| k_all) => `(tactic| with_reducible assumption)
local macro_rules | `(tactic| walk_at "call type:range") => `(tactic| ((rename Fr _ _ _ _ => F'); (rename News _ _ _ _ => N'); (with_unfolding_all refine range1_rows F' N' ?_; intro _ _ _ _ _ _ _ _ _)))
local macro_rules | `(tactic| walk_at "pyIter ref") => `(tactic| ((with_reducible show wpAny _ _ (pyIter _) (fun it s₂ => LoopAtV _ _ _ _ _ (Str.ofString "_") (Stmt.Assign _ _ _ :: _) _ _ it s₂) _ _); (k_dflt (refine' read_loop ?hS ?hh ?hr ?hb ?hl ?F ?N ?g1 ?g2 ?g3 ?g4 ?g5 ?g6 ?o1 ?o2 ?hsub ?hp0 ?_ ?_; (case hS => assumption); (case hh => exact rfl); (case hr => k_asm); (case hb => exact rfl); (case hl => omega); (case F => k_asm); (case N => k_asm); (case g6 => k_mem); (case g1 => k_mem); (case g2 => k_mem); (case g3 => k_mem); (case g4 => k_mem); (case g5 => k_mem); (case o1 => walk_at "last_lt"); (case o2 => walk_at "last_lt"); (case hsub => exact fun p hp => by (repeat (first | exact hp | apply List.Mem.tail))); (case hp0 => omega))); (intro i t ys ny p tp u h tk own hi hp hys hyl o1 o2 F' N'); exfalso; omega); ((intro ys ny p tp u h tk hp hys F' N'); (have hyl := IntsAre.length hys); (try dsimp only)))
local macro_rules | `(tactic| walk_at "RdEnd") => `(tactic| ((rename News _ _ _ _ => nE'); (try simp only [List.push_toArray] at nE'); exact RdEnd.intro (by assumption) nE' (by k_mem) (by k_mem) (by k_mem) (by k_mem) (by k_mem) (by k_mem) (by assumption) (by assumption) (by (intro z h1 h2 h3; simp [h1, h2, h3])) (by omega) (fun q hq => by (repeat (first | exact List.mem_append_left _ hq | apply List.Mem.tail))) (fun q hq => by (repeat (first | exact List.mem_append_right _ hq | apply List.Mem.tail)))))
local macro_rules | `(tactic| walk_at "wh_dec") => `(tactic| ((try simp) <;> omega))
local macro_rules | `(tactic| walk_at "exec While Compare cons nil") => `(tactic| (k_here; k_dflt (refine whl_start 2 ?_)))
local macro_rules | `(tactic| walk_at "WhlIf") => `(tactic| (first | (refine WhlIf.yes (decide_eq_true (by omega)) ?_) | (refine WhlIf.no (decide_eq_false (by omega)) ?_)))
local macro_rules | `(tactic| walk_at "binaryOp BitAnd int int") => `(tactic| (k_here; (with_reducible show wpAny _ _ (binaryOp _ (Value.int (rlwS _ _) _) _) _ _ _); (with_reducible refine rl_mask (by omega) (by omega) (by omega) (by omega) ?_)))
local macro_rules | `(tactic| walk_at "binaryOp BitAnd int int") => `(tactic| (k_here; (with_reducible show wpAny _ _ (binaryOp _ (Value.int (rlwI _ _) _) _) _ _ _); (with_reducible refine rl_and1 (by omega) (by omega) (by omega) (by omega) ?_)))
local macro_rules | `(tactic| walk_at "binaryOp RShift int int") => `(tactic| (k_here; (with_reducible show wpAny _ _ (binaryOp _ (Value.int (rlwI _ _) _) (Value.int 33 _)) _ _ _); (with_reducible refine rl_shr33 (by omega) (by omega) (by omega) (by omega) ?_)))
local macro_rules | `(tactic| walk_at "binaryOp RShift int int") => `(tactic| (k_here; (with_reducible show wpAny _ _ (binaryOp _ (Value.int (rlwI _ _) _) (Value.int 1 _)) _ _ _); (with_reducible refine rl_shr1 (by omega) (by omega) (by omega) (by omega) ?_)))
local macro_rules | `(tactic| walk_at "call builtin:len") => `(tactic| (k_here; (with_reducible show wpAny _ _ (call (Value.builtin "len") [Value.ref _]) _ _ _); (with_unfolding_all refine' len_ints_fit (newsList ?k0 ?k1) ?k2 ?k3 ?_; (case k0 => k_asm); (case k1 => k_mem); (case k2 => with_reducible assumption); (case k3 => omega); k_whole)))
local macro_rules | `(tactic| walk_at "subscriptTail") => `(tactic| (k_here; (with_reducible show wpAny _ _ (subscriptTail _ _ (Value.ref _) (Value.int _ _)) _ _ _); (with_unfolding_all refine' item_anyK (newsList ?k0 ?k1) ?k2 ?k3 ?k4 ?k5 ?_ ?k6; (case k0 => k_asm); (case k1 => k_mem); (case k2 => with_reducible assumption); (case k3 => omega); (case k4 => omega); (case k5 => omega); (case k6 => with_unfolding_all rfl); k_whole); intro _))
local macro_rules | `(tactic| walk_at "subscriptTail") => `(tactic| (k_here; (with_reducible show wpAny _ _ (subscriptTail _ _ (Value.ref _) (Value.int 0 _)) _ _ _); (with_unfolding_all refine' item_rlw (newsList ?k0 ?k1) ?k2 ?k3 ?k4 ?_ ?k6; (case k0 => k_asm); (case k1 => k_mem); (case k2 => with_reducible assumption); (case k3 => with_reducible assumption); (case k4 => omega); (case k6 => with_unfolding_all rfl); k_whole); intro _))
local macro_rules | `(tactic| walk_at "subscriptTail Name Name ref int") => `(tactic| (k_here; (with_reducible show wpAny _ _ (subscriptTail _ _ (Value.ref _) (Value.int 0 _)) _ _ _); (with_unfolding_all refine' item_rlw (newsList ?k0 ?k1) ?k2 ?k3 ?k4 ?_ ?k6; (case k0 => k_asm); (case k1 => k_mem); (case k2 => with_reducible assumption); (case k3 => with_reducible assumption); (case k4 => omega); (case k6 => with_unfolding_all rfl); k_whole); intro _))
local macro_rules | `(tactic| walk_at "exec If") => `(tactic| ((with_reducible show wpAny _ _ (exec (Stmt.If _ [Stmt.Assign _ _ _, Stmt.If _ _ _ _, Stmt.If _ _ _ _, Stmt.AugAssign _ _ _ _] [] _) _) _ _ _); (fail_if_success (with_reducible show wpAny _ _ _ (CurEnd _ _ _ _ _ _) _ _)); (k_dflt (refine' cur_join ?C ?F ?N ?_ ?_; (case C => assumption); (case F => k_asm); (case N => k_asm))); rotate_left; (intro t u h' tk' F' N'); (try dsimp only); rotate_left))
local macro_rules | `(tactic| walk_at "CurEnd") => `(tactic| exact CurEnd.intro (by assumption) (by assumption) rfl (by omega) (by (intro y h1 h2; simp [h1, h2])))
local macro_rules | `(tactic| walk_at "pyIter ref") => `(tactic| ((with_reducible show wpAny _ _ (pyIter _) (fun it s₂ => LoopAtV _ _ _ _ _ (Str.ofString "_") (Stmt.If _ _ _ _ :: _) _ _ it s₂) _ _); (k_dflt (refine' lit_loop ?hh ?hr ?hb ?C ?z0 ?zn ?hn ?hlw ?F ?N ?S ?o1 ?W ?hP ?hPn ?hct ?a1 ?a2 ?b1 ?b2 ?_ ?_; (case hh => exact rfl); (case hr => k_asm); (case C => assumption); (case hb => exact rfl); (case z0 => assumption); (case zn => assumption); (case hn => assumption); (case F => k_asm); (case N => k_asm); (case S => assumption); (case hlw => assumption); (case o1 => (intro q hq; simp only [List.mem_cons] at hq; rcases hq with h | h | h | h | h | h <;> first | (subst h; show @Ne Nat _ _; omega) | (exact Nat.ne_of_lt (kst_ltOf (by walk_at "last_lt") q h)))); (case W => assumption); (case hP => assumption); (case hPn => assumption); (case hct => assumption); (case a1 => exact rfl); (case a2 => exact rfl); (case b1 => omega); (case b2 => omega))); (intro i t t1 t2 so u h tk own hi hS hl0 hlb o1 F' N'); rotate_left; (intro so t1 t2 u h tk hS F' N'); (try dsimp only); rotate_left; (simp only [List.cons_append] at N' o1)))
local macro_rules | `(tactic| walk_at "LitEnd") => `(tactic| exact LitEnd.intro (by assumption) (by assumption) (by assumption) rfl rfl (by omega) (by omega) (by omega) (by (intro z h1 h2 h3 h4 h5; simp [h1, h2, h3, h4, h5])))
local macro_rules | `(tactic| walk_at "pyIter ref") => `(tactic| ((with_reducible show wpAny _ _ (pyIter _) (fun it s₂ => LoopAtV _ _ _ _ _ (Str.ofString "i") _ _ _ it s₂) _ _); (k_dflt (refine' bit_loop ?hh ?hr ?F ?N ?S ?o1 ?h0 ?hb ?hP ?_ ?_; (case hh => exact rfl); (case hr => k_asm); (case F => k_asm); (case N => k_asm); (case S => assumption); (case o1 => assumption); (case h0 => assumption); (case hb => assumption); (case hP => assumption))); (intro i t so h tk own hi hB hS o1 F' N'); rotate_left; (intro so u h tk hS F' N'); (try dsimp only); rotate_left; (simp only [List.cons_append] at N' o1)))
local macro_rules | `(tactic| walk_at "BitEnd") => `(tactic| (simp only [← List.cons_append]; first | exact BitEnd.add (by assumption) (by assumption) (by assumption) (by assumption) (by assumption) (by (intro z h1; simp [h1])) | exact BitEnd.old (by assumption) (by assumption) (by assumption) (by assumption) (by assumption) (by (intro z h1; simp [h1]))))
local macro_rules | `(tactic| walk_at "getMethod ref") => `(tactic| (k_here; (with_reducible show wpAny _ _ (getMethod (Value.ref _) (Str.ofString "add") _) _ _ _); k_dflt (refine' set_method ?N ?a ?A ?_; (case N => k_asm); (case a => k_mem); (case A => assumption); k_whole)))
local macro_rules | `(tactic| walk_at "call builtin:set.add") => `(tactic| (k_here; (with_reducible show wpAny _ _ (call (Value.builtin "set.add") [Value.ref _, Value.int _ _]) _ _ _); k_dflt (refine' set_add ?F ?N ?U ?d ?b0 ?b1 ?_; (case F => k_asm); (case N => k_asm); (case U => k_updF); (case d => assumption); (case b0 => exact BitFact.lo (by assumption) (by assumption)); (case b1 => exact BitFact.hi (by assumption) (by assumption)); k_whole); intro h' o' F' N' hs'; (try dsimp only at N')))
theorem bm_decode0 (w : World) (mean : ExcName → Option Value) (mg mb : Str → Option Value) (dp un : Nat) (gd : Option (List Code)) (cn : Str) (cs : Scope) (a : Addr) (ccd : Value) (cl : List (Str × Addr)) (outer : List Env) (A₀ : Around) (base h₀ : Heap) (L : Addr) (m : Str → Option Value) (news : Ledger) (s : Shared) (Q E : Value → Shared → Prop)
    (B : Below A₀ base outer h₀) (F : Fr h₀ L s.heap m) (X : (Mine.hd.heap_39 w.params).In h₀) (N : News h₀ L s.heap news) (T : Top Mine.hd.view_39 (looseW Mine.hd.view_39 [Str.ofString "struct", Str.ofString "BytesIO"]) mean mg mb h₀) (hk : cs.kind = .function) (hd : dp + 20 < recursionLimit) (hu : un + 200 < cLine)
    (D : Array UInt8) (t : Tok) (P : Int → Bool) (ks ms : List Int) (hD : KBw.bInts D = ks) (K : DecKs ks 0 ms) (hkl : (ks.length : Int) = 12 + 8 * ms.length) (hcl : (ms.length : Int) = 0) (hcc : ∀ c ∈ ms, 0 ≤ c ∧ c < 18446744073709551616)
    (hP0 : ∀ k, P k = false)
    (hret : ∀ (x dx sa : Addr) (so : Obj) (t1 t2 t3 : Tok) (c : Int) (h' : Heap) (tk' : Nat), Fr h₀ L h' m → News h₀ L h' ((sa, so) :: (x, instObj 173 dx) :: (dx, bmDict w t1 t2 sa c t3) :: news) →
      AllLt dx news → @LT.lt Nat _ dx x → @LT.lt Nat _ x sa → SetS true (ledOf w) so P → Q (.ref x) { s with heap := h', toks := tk' }) :
    wpAny (model Challenge.rw_bh0020_01.row.prog w) (ktrTop dp un gd cn cs L a ccd cl outer) (call (.ref 173) [.bytes D t]) Q E s := by
  w_top off
  k_with_none
  have hfill : Challenge.rw_bh0020_01 = Challenge.rw_bh0020_01 ∧ (Mine.hd.heap_39 w.params).In h₀ := ⟨rfl, X⟩
  revert hfill
  k_fill
  intro hfill
  clear hfill
  k_steps
  exact hret _ _ _ _ _ _ _ _ _ _ (by assumption) (dec_drop (by assumption)) (allLt_of (by assumption)) (by omega) (by omega) (SetS.congr (by assumption) hP0)
end Mine
end
section
open PySem PySem.W PyProof.Rows PySem.Calls
set_option maxRecDepth 100000
namespace Mine
theorem slot_bytes_join : Slot "bytes" "join" "bytes.join" :=
  .of (owner := "bytes") (n := "join") (by rw [typeLookup_type, builtinLookup_eq_fast]; kernel_rfl) (by decide +kernel) (by decide +kernel) (by decide +kernel)
    (by first | exact .inl (by decide +kernel) | exact .inr (by decide +kernel)) (by rw [isSubtype_type]; kernel_rfl)
theorem type_bytes_join : typeOf (.builtin "bytes.join") = pure (.type "method_descriptor") := by show builtinType _ = _; rw [builtinType_eq_fast]; kernel_rfl
theorem entry_bytes_join : entryFor table "bytes.join" = some Builtin.«bytes.join» := entryFor_of_tree (by kernel_rfl)
theorem args_bytes_join_2 (a b : Value) : argsOk "bytes.join" ⟨[a, b], []⟩ := by
  unfold argsOk; rw [signature?_of (id := "bytes.join") (n := ['n', 'i', 'o', 'j']) (o := ['s', 'e', 't', 'y', 'b']) (by kernel_rfl) FB.owner_bytes]; kernel_rfl
theorem buf_lookup : typeLookup (.type "bytes") "__buffer__" = pure (some (.builtin "bytes.__buffer__")) := by rw [typeLookup_type, builtinLookup_eq_fast]; kernel_rfl
end Mine
end
section
open PySem PySem.W PyProof.Rows PySem.Calls
set_option maxRecDepth 100000
namespace Mine
open PySem.Builtin
theorem take_eq {id : String} {b : Array UInt8} {t : Tok} : Bytes.takeBuffer? id (.bytes b t) 0 = pure (some (b, none)) := by
  unfold Bytes.takeBuffer?
  rw [KBy.special_eq KBy.look_buffer]
  simp only [pure_bind]
  rw [KBy.own_buffer]
  have e : Bytes.buffer? id (.bytes b t) (full := ((0 : Int) == Bytes.fullReadOnly)) = pure (some b) := KBy.buffer_eq
  rw [e]
  rfl
theorem quiet_take' {M : Model} {A : Around} {E : Value → Shared → Prop} {s : Shared} {id : String} {b : Array UInt8} {t : Tok} {Q : Option (Array UInt8 × Option Value) → Shared → Prop} (h : Q (some (b, none)) s) :
    wpAny M A (Bytes.takeBufferQuiet? id (.bytes b t) 0) Q E s := by
  unfold Bytes.takeBufferQuiet?
  rw [take_eq]
  exact wpAny_bind (wpAny_attempt (wpAny_pure (wpAny_pure h)))
end Mine
end
section
open PySem PySem.W PyProof.Rows PySem.Calls
set_option maxRecDepth 100000
namespace Mine
open PySem.Builtin
theorem forIn3 {β : Type} {M : Model} {A : Around} {E : Value → Shared → Prop} {s : Shared} {f : Nat → β → Sem (ForInStep β)} {b : β} {Q : β → Shared → Prop}
    (h : wpAny M A (f 0 b) (fun r s => ∃ b1, r = .yield b1 ∧ wpAny M A (f 1 b1) (fun r s => ∃ b2, r = .yield b2 ∧ wpAny M A (f 2 b2) (fun r s => ∃ b3, r = .yield b3 ∧ Q b3 s) E s) E s) E s) :
    wpAny M A (forIn ([0:3] : Std.Legacy.Range) b f : Sem β) Q E s := by
  rw [Std.Legacy.Range.forIn_eq_forIn_range']
  show wpAny M A (forIn [0, 1, 2] b f) Q E s
  rw [List.forIn_cons]
  refine wpAny_bind (wpAny_mono h (fun r s₁ h => ?_) fun _ _ e => e)
  obtain ⟨b1, rfl, h⟩ := h
  show wpAny M A (forIn [1, 2] b1 f) Q E s₁
  rw [List.forIn_cons]
  refine wpAny_bind (wpAny_mono h (fun r s₁ h => ?_) fun _ _ e => e)
  obtain ⟨b2, rfl, h⟩ := h
  show wpAny M A (forIn [2] b2 f) Q E s₁
  rw [List.forIn_cons]
  refine wpAny_bind (wpAny_mono h (fun r s₁ h => ?_) fun _ _ e => e)
  obtain ⟨b3, rfl, h⟩ := h
  exact wpAny_pure h
theorem call_join3 {prog : Program} {w : World} {A : Around} {E : Value → Shared → Prop} {s : Shared} {a : Addr} {t : Tok} {b0 b1 b2 : Array UInt8} {u0 u1 u2 : Tok} {k0 k1 k2 : List Int} {Q : Value → Shared → Prop} (hl : s.heap.IsList a #[.bytes b0 u0, .bytes b1 u1, .bytes b2 u2]) (h0 : KBw.bInts b0 = k0) (h1 : KBw.bInts b1 = k1) (h2 : KBw.bInts b2 = k2) (hs : k0.length + k1.length + k2.length ≤ 1000)
    (h : ∀ d t' k, KBw.bInts d = (k0 ++ k1) ++ k2 → Q (.bytes d t') { s with toks := k }) : wpAny (model prog w) A (call (.builtin "bytes.join") [.bytes #[] t, .ref a]) Q E s := by
  obtain ⟨o, ho, hc, n, hd⟩ := id hl
  have z0 := KBw.ints_length b0
  have z1 := KBw.ints_length b1
  have z2 := KBw.ints_length b2
  rw [h0] at z0
  rw [h1] at z1
  rw [h2] at z2
  refine wpAny_call_entry slot_bytes_join (typeIs_bytes _ _ _) entry_bytes_join ?_ (args_bytes_join_2 _ _)
  show wpAny _ _ (Bytes.joinItems (.ref a) >>= fun seq => _) _ _ s
  refine wpAny_bind ?_
  unfold Bytes.joinItems
  refine wpAny_bind (wpAny_typeOf hl.typeIs ?_)
  refine KFB.if_so rfl ?_
  refine wpAny_pure ?_
  show wpAny _ _ (seqItems? (.ref a) >>= fun r => _) _ _ s
  refine wpAny_bind (wpAny_seqItems ho hd ?_)
  show wpAny _ _ (forIn (m := Sem) ([0:3] : Std.Legacy.Range) _ _ >>= fun r => _) _ _ _
  refine wpAny_bind (forIn3 ?_)
  show wpAny _ _ (seqItems? (.ref a) >>= fun r => _) _ _ _
  refine wpAny_bind (wpAny_seqItems ho hd ?_)
  show wpAny _ _ (holding _ (Bytes.takeBufferQuiet? _ (.bytes b0 u0) 0) >>= fun r => _) _ _ _
  refine wpAny_bind (wpAny_holding (quiet_take' ?_))
  show wpAny _ _ (seqItems? (.ref a) >>= fun r => _) _ _ _
  refine wpAny_bind (wpAny_seqItems ho hd ?_)
  show wpAny _ _ (pure (ForInStep.yield _)) _ _ _
  refine wpAny_pure ⟨_, rfl, ?_⟩
  show wpAny _ _ (seqItems? (.ref a) >>= fun r => _) _ _ _
  refine wpAny_bind (wpAny_seqItems ho hd ?_)
  show wpAny _ _ (holding _ (Bytes.takeBufferQuiet? _ (.bytes b1 u1) 0) >>= fun r => _) _ _ _
  refine wpAny_bind (wpAny_holding (quiet_take' ?_))
  show wpAny _ _ (seqItems? (.ref a) >>= fun r => _) _ _ _
  refine wpAny_bind (wpAny_seqItems ho hd ?_)
  show wpAny _ _ (pure (ForInStep.yield _)) _ _ _
  refine wpAny_pure ⟨_, rfl, ?_⟩
  show wpAny _ _ (seqItems? (.ref a) >>= fun r => _) _ _ _
  refine wpAny_bind (wpAny_seqItems ho hd ?_)
  show wpAny _ _ (holding _ (Bytes.takeBufferQuiet? _ (.bytes b2 u2) 0) >>= fun r => _) _ _ _
  refine wpAny_bind (wpAny_holding (quiet_take' ?_))
  show wpAny _ _ (seqItems? (.ref a) >>= fun r => _) _ _ _
  refine wpAny_bind (wpAny_seqItems ho hd ?_)
  show wpAny _ _ (pure (ForInStep.yield _)) _ _ _
  refine wpAny_pure ⟨_, rfl, ?_⟩
  show wpAny _ _ (Bytes.payload (.bytes #[] t) >>= fun r => _) _ _ _
  refine wpAny_bind (wpAny_of_eq (a := #[]) rfl ?_)
  refine KFB.if_not (KBy.tooLong_not ?_) ?_
  · show 0 * 2 + b0.size + b1.size + b2.size ≤ 16777216
    omega
  have hj : KBw.bInts (Bytes.joined #[] [b0, b1, b2]) = (k0 ++ k1) ++ k2 := by
    subst h0 h1 h2
    simp [Bytes.joined, KBw.bInts]
  refine wpAny_bind (m := mkBytes (Bytes.joined #[] [b0, b1, b2])) (wpAny_mkBytes ?_ ?_)
  · show wpAny _ _ (holding _ point >>= fun r => _) _ _ _
    refine wpAny_bind (wpAny_holding (wpAny_point ?_))
    show wpAny _ _ (Bytes.joinLetGo _ _ >>= fun r => _) _ _ _
    refine wpAny_bind ?_
    show wpAny _ _ (letGo _ _ >>= fun _ => Bytes.joinLetGo _ _) _ _ _
    refine wpAny_bind (wpAny_letGo ?_)
    show wpAny _ _ (letGo _ _ >>= fun _ => Bytes.joinLetGo _ _) _ _ _
    refine wpAny_bind (wpAny_letGo ?_)
    show wpAny _ _ (letGo _ _ >>= fun _ => Bytes.joinLetGo _ _) _ _ _
    refine wpAny_bind (wpAny_letGo ?_)
    show wpAny _ _ (pure ()) _ _ _
    refine wpAny_pure ?_
    show wpAny _ _ (ret _) _ _ _
    exact wpAny_pure ⟨_, rfl, h _ _ _ hj⟩
  · have := congrArg List.length hj
    rw [KBw.ints_length, List.length_append, List.length_append] at this
    rw [this, sizeLine_eq]; omega
end Mine
end
section
open PySem PySem.W PyProof.Rows PySem.Calls
set_option maxRecDepth 100000
namespace Mine
open LCg
section
variable {prog : Program} {w : World} {A : Around} {E : Value → Shared → Prop} {s : Shared} {h₀ : Heap} {L : Addr} {m : Str → Option Value} {env : Env}
def B4 (h₀ : Heap) (L : Addr) (m : Str → Option Value) (s₁ : Shared) (led : Ledger) (y : Value) (s₂ : Shared) : Prop :=
  ∃ d t h' tk, y = .bytes d t ∧ s₂ = { s₁ with heap := h', toks := tk } ∧ Fr h₀ L h' m ∧ News h₀ L h' led ∧ KBw.bInts d = big 4 0
theorem B4.mk {led : Ledger} {d : Array UInt8} {t : Tok} {h' : Heap} {tk : Nat} {s₁ : Shared} (F : Fr h₀ L h' m) (N : News h₀ L h' led) (hd : KBw.bInts d = big 4 0) : B4 h₀ L m s₁ led (.bytes d t) { s₁ with heap := h', toks := tk } := ⟨_, _, _, _, rfl, rfl, F, N, hd⟩
def B4Turn (prog : Program) (w : World) (A : Around) (h₀ : Heap) (L : Addr) (m : Str → Option Value) (env : Env) (elt : Expr) (x : Str) (scope : Scope) (cl : List (Str × Addr)) (s₁ : Shared) (news : Ledger) : Prop :=
  ∀ t I oI C oC D ys m₂ h tk (E' : Value → Shared → Prop), NsObj oC m₂ → m₂ x = some (.int 0 t) → Fr h₀ L h m → News h₀ L h ((I, oI) :: (C, oC) :: (D, lst ys) :: news) → Off3 I C D news → ((@Ne Nat I C) ∧ (@Ne Nat I D) ∧ (@Ne Nat C D)) →
    wpAny (model prog w) A (eval elt (compEnvC scope cl C env)) (B4 h₀ L m { s₁ with heap := h, toks := tk } ((I, oI) :: (C, oC) :: (D, lst ys) :: news)) E' { s₁ with heap := h, toks := tk }
def SrcB4 (prog : Program) (w : World) (A : Around) (h₀ : Heap) (L : Addr) (m : Str → Option Value) (env : Env) (elt : Expr) (x : Str) (scope : Scope) (cl : List (Str × Addr)) (Q : Value → Shared → Prop) (xv : Value) (s₁ : Shared) : Prop :=
  ∃ ax nx t0 t1 t2 news, xv = .ref ax ∧ A.handled = none ∧ Fr h₀ L s₁.heap m ∧ News h₀ L s₁.heap news ∧ (ax, tupObj #[.int 0 t0, .int 0 t1, .int 0 t2] nx) ∈ news ∧ B4Turn prog w A h₀ L m env elt x scope cl s₁ news ∧
    (∀ D d0 u0 d1 u1 d2 u2 h tk, KBw.bInts d0 = big 4 0 → KBw.bInts d1 = big 4 0 → KBw.bInts d2 = big 4 0 → Fr h₀ L h m → News h₀ L h ((D, lst [.bytes d0 u0, .bytes d1 u1, .bytes d2 u2]) :: news) → Off1 D news → Q (.ref D) { s₁ with heap := h, toks := tk })
theorem SrcB4.mk {elt : Expr} {x : Str} {scope : Scope} {cl : List (Str × Addr)} {Q : Value → Shared → Prop} {s₁ : Shared} {ax : Addr} {nx : Nat} {t0 t1 t2 : Tok} {news : Ledger} (hh : A.handled = none) (F : Fr h₀ L s₁.heap m) (N : News h₀ L s₁.heap news) (hm : (ax, tupObj #[.int 0 t0, .int 0 t1, .int 0 t2] nx) ∈ news) (T : B4Turn prog w A h₀ L m env elt x scope cl s₁ news)
    (fin : ∀ D d0 u0 d1 u1 d2 u2 h tk, KBw.bInts d0 = big 4 0 → KBw.bInts d1 = big 4 0 → KBw.bInts d2 = big 4 0 → Fr h₀ L h m → News h₀ L h ((D, lst [.bytes d0 u0, .bytes d1 u1, .bytes d2 u2]) :: news) → Off1 D news → Q (.ref D) { s₁ with heap := h, toks := tk }) :
    SrcB4 prog w A h₀ L m env elt x scope cl Q (.ref ax) s₁ := ⟨ax, nx, t0, t1, t2, news, rfl, hh, F, N, hm, T, fin⟩
theorem comp_b4 {elt iter : Expr} {x : Str} {px : Pos} {scope : Scope} {cl : List (Str × Addr)} {pos : Pos} {Q : Value → Shared → Prop} (F₀ : Fr h₀ L s.heap m)
    (hclos : closureFor scope env = pure cl) (hcell : ∀ y ∈ scope.names, y.2 ≠ .cell) (hkind : scope.kind = .function)
    (hnames : ∀ y ∈ scope.names, y.2 = .local → scope.names.lookup y.1 = some .local) (hx : scope.names.lookup x = some .local)
    (h : wpAny (model prog w) A (eval iter env) (SrcB4 prog w A h₀ L m env elt x scope cl Q) E s)
    (hs : ∀ x, foldedSetIterable iter env x = pure x := by intro _; rfl) :
    wpAny (model prog w) A (eval (.ListComp elt [⟨.Name x px, iter, [], 0⟩] scope pos) env) Q E s := by
  rw [eval_ListComp]
  refine wpAny_comprehension_free (use := none) rfl hs hclos hkind hnames (wpAny_mono h (fun xv s₁ h₁ => ?_) fun _ _ e => e)
  obtain ⟨ax, nx, t0, t1, t2, news, rfl, hh, F, N, hm, T, fin⟩ := h₁
  have hax := (N _ hm).1
  have hlt : ax < s₁.heap.objs.size := Heap.lt_size hax
  refine wpAny_pyIter_tuple (items := #[.int 0 t0, .int 0 t1, .int 0 t2]) ⟨_, hax, rfl, ⟨_, rfl⟩⟩ ?_
  have up : ∀ b o, s₁.heap.get? b = some o → (s₁.heap.push { cls := .type "tuple_iterator", data := .fields #[.ref ax, .int 0 0] }).get? b = some o := fun b o e => Heap.get?_push_of_some _ e
  have off0 : ∀ p ∈ news, p.1 ≠ s₁.heap.objs.size := fun p hp => Nat.ne_of_lt (Heap.lt_size (N p hp).1)
  refine block_U (S := fun nw => (ax, tupObj #[.int 0 t0, .int 0 t1, .int 0 t2] nx) ∈ nw) (Fin := fun ys nw => nw = news ∧ ∃ d0 u0 d1 u1 d2 u2, ys = [.bytes d0 u0, .bytes d1 u1, .bytes d2 u2] ∧ KBw.bInts d0 = big 4 0 ∧ KBw.bInts d1 = big 4 0 ∧ KBw.bInts d2 = big 4 0) (news := news)
    (Walks.tuple hh s₁.heap.objs.size ax (Nat.ne_of_lt hlt) #[.int 0 t0, .int 0 t1, .int 0 t2]) (by show 3 ≤ sizeLine; rw [sizeLine_eq]; decide) (fun i h st => by obtain ⟨o, e, _⟩ := st.1; exact ⟨o, e⟩)
    (fun i h h' o nw st e e' k N S => ⟨by obtain ⟨o', q, r⟩ := st.1; rw [e] at q; cases q; exact ⟨o, e', r⟩, ⟨_, (N _ S).1, rfl, ⟨_, rfl⟩⟩⟩) hcell hkind hx ⟨⟨_, Heap.get?_push_size _ rfl, rfl, rfl⟩, ⟨_, up _ _ hax, rfl, ⟨_, rfl⟩⟩⟩ (fun b hb => ?_)
      (F.keeps up) (N.grown up) (Nat.ne_of_lt F.ns.lt) (next_is_new F) off0 hm ?_ ?_
  · show b < (s₁.heap.push _).objs.size
    rw [Heap.size_push]
    rcases List.mem_cons.mp hb with rfl | hb
    · exact Nat.lt_succ_self _
    · rw [List.mem_singleton.mp hb]; exact Nat.lt_succ_of_lt hlt
  · have isz : ∀ (i : Nat) v, (#[.int 0 t0, .int 0 t1, .int 0 t2] : Array Value)[i]? = some v → ∃ t, v = .int 0 t := by
      intro i v hv
      match i with
      | 0 => exact ⟨t0, (Option.some.inj hv).symm⟩
      | 1 => exact ⟨t1, (Option.some.inj hv).symm⟩
      | 2 => exact ⟨t2, (Option.some.inj hv).symm⟩
      | n + 3 => simp at hv
    refine CompRest.succ fun v I oI C oC D m₂ h tk E' hv hC hx' F' N' off ne => ?_
    obtain ⟨t, rfl⟩ := isz _ _ hv
    refine wpAny_mono (T t I oI C oC D _ m₂ h tk E' hC hx' F' N' off ne) (fun y s₂ hy => ?_) fun _ _ e => e
    obtain ⟨d0, u0, h', tk', rfl, rfl, F'', N'', hd0⟩ := hy
    refine CompEnd.intro F'' N'' news (fun p hp => hp) off hm ?_
    refine CompRest.succ fun v I oI C oC D m₂ h tk E' hv hC hx' F' N' off ne => ?_
    obtain ⟨t, rfl⟩ := isz _ _ hv
    refine wpAny_mono (T t I oI C oC D _ m₂ h tk E' hC hx' F' N' off ne) (fun y s₂ hy => ?_) fun _ _ e => e
    obtain ⟨d1, u1, h', tk', rfl, rfl, F'', N'', hd1⟩ := hy
    refine CompEnd.intro F'' N'' news (fun p hp => hp) off hm ?_
    refine CompRest.succ fun v I oI C oC D m₂ h tk E' hv hC hx' F' N' off ne => ?_
    obtain ⟨t, rfl⟩ := isz _ _ hv
    refine wpAny_mono (T t I oI C oC D _ m₂ h tk E' hC hx' F' N' off ne) (fun y s₂ hy => ?_) fun _ _ e => e
    obtain ⟨d2, u2, h', tk', rfl, rfl, F'', N'', hd2⟩ := hy
    refine CompEnd.intro F'' N'' news (fun p hp => hp) off hm ?_
    exact CompRest.zero ⟨rfl, d0, u0, d1, u1, d2, u2, rfl, hd0, hd1, hd2⟩
  · rintro D C h tk m' ys news' F' N' o1 hn hC₀ hD₀ hCL hDL hCD offC ⟨rfl, d0, u0, d1, u1, d2, u2, rfl, hd0, hd1, hd2⟩
    refine ⟨m', hn, fun h'' hs'' => fin D d0 u0 d1 u1 d2 u2 h'' tk hd0 hd1 hd2 (F'.change hs'' hCL hC₀) (fun p hp => ?_) o1⟩
    refine ⟨hs''.extBut _ _ ?_ (N' p hp).1, (N' p hp).2⟩
    rcases List.mem_cons.mp hp with rfl | hp
    · exact Ne.symm hCD
    · exact offC p hp
end
end Mine
end
section
open PySem PySem.W PyProof.Rows
set_option maxRecDepth 100000
set_option maxHeartbeats 4000000
namespace Mine
local macro_rules | `(tactic| walk_at "pad 0") => `(tactic| skip)
local macro_rules | `(tactic| walk_at "pad 1") => `(tactic| skip)
local macro_rules | `(tactic| walk_at "pad 2") => `(tactic| skip)
local macro_rules | `(tactic| walk_at "pad 3") => `(tactic| skip)
local macro_rules | `(tactic| walk_at "pad 4") => `(tactic| skip)
local macro_rules | `(tactic| walk_at "pad 5") => `(tactic| skip)
local macro_rules | `(tactic| walk_at "pad 6") => `(tactic| skip)
local macro_rules | `(tactic| walk_at "pad 7") => `(tactic| skip)
local macro_rules | `(tactic| walk_at "pad 8") => `(tactic| skip)
local macro_rules | `(tactic| walk_at "pad 9") => `(tactic| skip)
local macro_rules | `(tactic| walk_at "pad 10") => `(tactic| skip)
local macro_rules | `(tactic| walk_at "pad 11") => `(tactic| skip)
local macro_rules | `(tactic| walk_at "pad 12") => `(tactic| skip)
local macro_rules | `(tactic| walk_at "pad 13") => `(tactic| skip)
local macro_rules | `(tactic| walk_at "pad 14") => `(tactic| skip)
local macro_rules | `(tactic| walk_at "pad 15") => `(tactic| skip)
local macro_rules | `(tactic| walk_at "pad 16") => `(tactic| skip)
local macro_rules | `(tactic| walk_at "pad 17") => `(tactic| skip)
local macro_rules | `(tactic| walk_at "pad 18") => `(tactic| skip)
local macro_rules | `(tactic| walk_at "pad 19") => `(tactic| skip)
local macro_rules | `(tactic| walk_at "pad 20") => `(tactic| skip)
local macro_rules | `(tactic| walk_at "pad 21") => `(tactic| skip)
local macro_rules | `(tactic| walk_at "pad 22") => `(tactic| skip)
local macro_rules | `(tactic| walk_at "call type:set nil nil") => `(tactic| (k_here; k_dflt (refine set_new (by k_asm) (by k_asm) ?_); intro d' o' h' F' N' l1 hs'; (try k_lt l1)))
local macro_rules | `(tactic| k_room) => `(tactic| ktr_room)
local macro_rules | `(tactic| k_mem) => `(tactic| ((fail_if_success (refine' List.Mem.tail _ ?_)); assumption))
local macro_rules | `(tactic| k_units) => `(tactic| ktr_units)
local macro_rules | `(tactic| k_enter) => `(tactic| ((fail_if_success (kp_kind "rest")); first
  | (refine' code_def ?k1 ?k2 ?k3 ?k4 ?k5 ?kA ?kF ?kK ?k6 ?k7 ?k8 ?k9 ?kB ?_ ?c2 ?c3 ?c4 ?c5; (case kA => exact rfl); (case kF => exact rfl); (case kK => first | assumption | exact rfl); (case k1 => k_asm); (case k2 => k_asm); (case k3 => k_asm); (case k4 => k_asm); (case k5 => k_asm); (case k6 => k_is); (case k7 => k_is); (case k8 => ktr_room); (case k9 => first | exact BindsTo.of_eq rfl | exact binds_K (by k_in) rfl (by k_is) rfl rfl rfl); (case c5 => decide); (case kB => exact locs rfl); (case c2 => exact rfl); (case c3 => exact rfl); (case c4 => exact rfl); k_whole; intro g' L' h' FG' F' N' B' X' T'; (try dsimp only); (try k_lift B'); (try k_fold))
  | (refine' code_defC ?k1 ?k2 ?k3 ?k4 ?k5 ?kA ?kF ?kK ?k6 ?k7 ?k8 ?k9 ?kB ?kD ?_ ?c2 ?c3 ?c4; (case kA => exact rfl); (case kF => exact rfl); (case kK => first | assumption | exact rfl); (case k1 => k_asm); (case k2 => k_asm); (case k3 => k_asm); (case k4 => k_asm); (case k5 => k_asm); (case k6 => k_is); (case k7 => k_is); (case k8 => ktr_room); (case k9 => first | exact BindsTo.of_eq rfl | exact binds_K (by k_in) rfl (by k_is) rfl rfl rfl); (case kB => exact rfl); (case kD => decide +kernel); (case c2 => exact rfl); (case c3 => exact rfl); (case c4 => exact rfl); k_whole; intro g' L' h' tk' cells' FG' F' N' Y' B' X' T' l1; (try k_lt l1); k_cells Y'; (try simp only [List.cons_append, List.nil_append] at N'); (try dsimp only); (try k_lift B'); (try k_fold))))
local macro_rules | `(tactic| walk_at "truthy ref") => `(tactic| (k_here; k_dflt (refine' set_truthy ?N ?a ?A ?_; (case N => k_asm); (case a => k_mem); (case A => assumption); k_whole)))
local macro_rules | `(tactic| walk_at "ite") => `(tactic| (first | (refine ite_pos (by (rw [decide_eq_true_eq]; assumption)) ?_) | (refine ite_neg (by simpa using (by assumption)) ?_)))
local macro_rules | `(tactic| walk_at "call builtin:int.to_bytes") => `(tactic| (k_here; (first | (with_unfolding_all refine to_big4 ?h0 ?h1 ?_) | (with_unfolding_all refine to_big8 ?h0 ?h1 ?_)); (case h0 => omega); (case h1 => omega); intro b' t' k' hb'))
local macro_rules | `(tactic| walk_at "execs cons") => `(tactic| (k_here; (with_reducible refine gen_toks1 ?_); intro tk))
local macro_rules | `(tactic| walk_at "execs nil") => `(tactic| (k_here; (with_reducible refine gen_toks1 ?_); intro tk))
theorem join_method {M : Model} {A : Around} {E : Value → Shared → Prop} {s : Shared} {b : Array UInt8} {t : Tok} {pl : Sem Bool} {Q : Value × List Value → Shared → Prop} (h : Q (.builtin "bytes.join", [.bytes b t]) s) : wpAny M A (getMethod (.bytes b t) (Str.ofString "join") pl) Q E s :=
  KBd.method_of (.bytes b t) (typeIs_bytes _ _ _) slot_bytes_join type_bytes_join KBd.noRef h
theorem join_K {prog : Program} {w : World} {A : Around} {E : Value → Shared → Prop} {s : Shared} {h₀ : Heap} {L : Addr} {led : Ledger} {a : Addr} {t : Tok} {b0 b1 b2 : Array UInt8} {u0 u1 u2 : Tok} {Q : Value → Shared → Prop} (N : News h₀ L s.heap led) (hm : (a, LCg.lst [.bytes b0 u0, .bytes b1 u1, .bytes b2 u2]) ∈ led) (h0 : KBw.bInts b0 = big 4 0) (h1 : KBw.bInts b1 = big 4 0) (h2 : KBw.bInts b2 = big 4 0)
    (h : ∀ d t' k, KBw.bInts d = (big 4 0 ++ big 4 0) ++ big 4 0 → Q (.bytes d t') { s with toks := k }) : wpAny (model prog w) A (call (.builtin "bytes.join") [.bytes #[] t, .ref a]) Q E s :=
  call_join3 ⟨_, (N _ hm).1, rfl, _, rfl⟩ h0 h1 h2 (by rw [big_len]; decide) h
local macro_rules | `(tactic| walk_at "getMethod bytes") => `(tactic| (k_here; (with_reducible refine join_method ?_)))
local macro_rules | `(tactic| walk_at "call builtin:bytes.join") => `(tactic| (k_here; k_dflt (refine' join_K ?N ?m ?h0 ?h1 ?h2 ?_; (case N => k_asm); (case m => k_mem); (case h0 => assumption); (case h1 => assumption); (case h2 => assumption)); intro d' t' k' hd'))
local macro_rules | `(tactic| walk_at "eval ListComp") => `(tactic| (k_here; k_dflt (refine comp_b4 (F₀ := by k_asm) (by with_unfolding_all rfl) (by decide) (by rfl) (by decide) (by rfl) ?_)))
local macro_rules | `(tactic| walk_at "SrcB4") => `(tactic| (k_dflt (refine' SrcB4.mk ?hh ?F ?N ?hm ?T ?fin; (case hh => exact rfl); (case F => k_asm); (case N => k_asm); (case hm => k_mem); (case' T => (intro t I oI C oC D ys m₂ h tk E' hC hx F' N' off ne; (try simp only [LCg.Off3, and_true] at off))); (case' fin => (intro D d0 u0 d1 u1 d2 u2 h tk h0 h1 h2 F' N' o1; (try simp only [LCg.Off1, and_true] at o1))))))
local macro_rules | `(tactic| walk_at "B4") => `(tactic| exact B4.mk (by assumption) (by assumption) (by assumption))
theorem bm_encode0 (w : World) (mean : ExcName → Option Value) (mg mb : Str → Option Value) (dp un : Nat) (gd : Option (List Code)) (cn : Str) (cs : Scope) (a : Addr) (ccd : Value) (cl : List (Str × Addr)) (outer : List Env) (A₀ : Around) (base h₀ : Heap) (L : Addr) (m : Str → Option Value) (news : Ledger) (sa : Addr) (so : Obj) (s : Shared) (Q E : Value → Shared → Prop)
    (B : Below A₀ base outer h₀) (F : Fr h₀ L s.heap m) (X : (Mine.hd.heap_39 w.params).In h₀) (N : News h₀ L s.heap ((sa, so) :: news)) (T : Top Mine.hd.view_39 (looseW Mine.hd.view_39 [Str.ofString "struct", Str.ofString "BytesIO"]) mean mg mb h₀) (hk : cs.kind = .function) (hd : dp + 20 < recursionLimit) (hu : un + 200 < cLine)
    (x dx : Addr) (t1 t2 t3 : Tok) (c : Int) (P : Int → Bool)
    (hx : (x, instObj 173 dx) ∈ news) (hdx : (dx, bmDict w t1 t2 sa c t3) ∈ news) (off : AllLt sa news) (SA : SetS true (ledOf w) so P)
    (hne : cnt P = 0)
    (hret : ∀ (D : Array UInt8) (t : Tok) (h' : Heap) (tk' : Nat), Fr h₀ L h' m → News h₀ L h' news → Enc P D → Q (.bytes D t) { s with heap := h', toks := tk' }) :
    wpAny (model Challenge.rw_bh0020_01.row.prog w) (ktrTop dp un gd cn cs L a ccd cl outer) (call (.ref 121) [.ref x]) Q E s := by
  w_top off
  k_with_none
  have hfill : Challenge.rw_bh0020_01 = Challenge.rw_bh0020_01 ∧ (Mine.hd.heap_39 w.params).In h₀ := ⟨rfl, X⟩
  revert hfill
  k_fill
  intro hfill
  clear hfill
  k_steps
  exact hret _ _ _ _ (by assumption) (cb_drop (by assumption) (fun p hp => .tail _ (.tail _ (.tail _ hp)))) (.inl ⟨hne, by assumption⟩)
end Mine
end
section
open PySem PySem.W PyProof.Rows
namespace Mine
theorem shape_mulP {n limit : Int} (hn0 : 2 ≤ n) (hn1 : n ≤ 141) (hl0 : 0 < limit) (hl1 : limit ≤ 150) : ShapeOf (mulP n limit) := by
  intro ws mx hmx hle h0 h1 W
  generalize hnw : ((mx + 1 + 63).fdiv 64).toNat = nw at W
  rw [Int.fdiv_eq_ediv_of_nonneg _ (by omega)] at hnw
  obtain ⟨hl, hW⟩ := W
  have hlim : mx ≤ limit := by
    unfold mulP at hmx
    rw [decide_eq_true_eq] at hmx
    exact hmx.2.1
  have small : ∀ i : Nat, i < nw → ws.getD i 0 < 18446744073709551615 := by
    intro i hi
    have h2 := (hW i hi).2
    have hlt : (ws.getD i 0).toNat < 2 ^ 64 := by
      apply Nat.lt_pow_two_of_testBit
      intro j hj
      rw [h2 j]
      have : ¬ j < 64 := by omega
      simp [this]
    have hne : (ws.getD i 0).toNat ≠ 2 ^ 64 - 1 := by
      intro e
      have b0 := h2 0
      have b1 := h2 1
      rw [e, Nat.testBit_two_pow_sub_one] at b0 b1
      simp only [mulP, show decide (0 < 64) = true from rfl, show decide (1 < 64) = true from rfl, Bool.true_and] at b0 b1
      have c0 := of_decide_eq_true b0.symm
      have c1 := of_decide_eq_true b1.symm
      have e0 := Int.dvd_of_emod_eq_zero c0.2.2
      have e1 := Int.dvd_of_emod_eq_zero c1.2.2
      have e2 := Int.dvd_sub e1 e0
      have e3 := Int.le_of_dvd (by omega) e2
      omega
    have := (hW i hi).1
    omega
  have nz : ∀ (i j : Nat), i < nw → j < 64 → mulP n limit ((64 * i + j : Nat) : Int) = true → 0 < ws.getD i 0 := by
    intro i j hi hj hp
    have h2 := (hW i hi).2 j
    rw [hp] at h2
    have h3 := (hW i hi).1
    rcases (by omega : ws.getD i 0 = 0 ∨ 0 < ws.getD i 0) with e | e
    · rw [e] at h2
      simp [hj] at h2
    · exact e
  have last : 0 < ws.getD (nw - 1) 0 := by
    refine nz (nw - 1) (mx.toNat % 64) (by omega) (by omega) ?_
    rw [show ((64 * (nw - 1) + mx.toNat % 64 : Nat) : Int) = mx by omega]
    exact hmx
  have mid : nw = 3 → ws.getD 0 0 ≠ 0 → 0 < ws.getD 1 0 := by
    intro h3 hne
    have h4 := (hW 0 (by omega)).1
    obtain ⟨j, hj⟩ := Nat.exists_testBit_of_ne_zero (x := (ws.getD 0 0).toNat) (by omega)
    rw [(hW 0 (by omega)).2 j] at hj
    simp only [mulP, Bool.and_eq_true, decide_eq_true_eq] at hj
    obtain ⟨hj1, hj2, hj3, hj4⟩ := hj
    have hnj := Int.le_of_dvd hj2 (Int.dvd_of_emod_eq_zero hj4)
    have hm := Int.mul_ediv_add_emod 127 n
    have hm1 := Int.emod_nonneg 127 (b := n) (by omega)
    have hm2 := Int.emod_lt_of_pos 127 (b := n) (by omega)
    generalize hq : n * (127 / n) = m at hm
    refine nz 1 (m.toNat - 64) (by omega) (by omega) ?_
    rw [show ((64 * 1 + (m.toNat - 64) : Nat) : Int) = m by omega]
    unfold mulP
    rw [decide_eq_true_eq]
    refine ⟨by omega, by omega, ?_⟩
    rw [← hq, Int.mul_emod_right]
  have hlo := (hW 0 (by omega)).1
  have hhi := small 0 (by omega)
  have mk : ∀ z : Nat, z < nw → (∀ i : Nat, i < z → ws.getD i 0 = 0) → (∀ i : Nat, z ≤ i → i < nw → 0 < ws.getD i 0) →
      ∃ z n : Int, CW ws z n ∧ 0 ≤ z ∧ z < n ∧ n ≤ 3 ∧ (ws.length : Int) = n ∧ 0 ≤ ws.getD (Int.toNat 0) 0 ∧ ws.getD (Int.toNat 0) 0 < 18446744073709551615 := by
    intro z hz a b
    refine ⟨z, nw, ⟨fun i hi hiz => a i.toNat (by omega), fun i hi hin => ⟨b i.toNat (by omega) (by omega), small i.toNat (by omega)⟩⟩, by omega, by omega, by omega, by omega, hlo, hhi⟩
  rcases (by omega : nw = 1 ∨ nw = 2 ∨ nw = 3) with e | e | e
  · subst e
    refine mk 0 (by omega) (fun i hi => by omega) (fun i _ hi => ?_)
    obtain rfl : i = 0 := by omega
    exact last
  · subst e
    by_cases c : ws.getD 0 0 = 0
    · refine mk 1 (by omega) (fun i hi => ?_) (fun i h hi => ?_)
      · obtain rfl : i = 0 := by omega
        exact c
      · obtain rfl : i = 1 := by omega
        exact last
    · refine mk 0 (by omega) (fun i hi => by omega) (fun i _ hi => ?_)
      rcases (by omega : i = 0 ∨ i = 1) with rfl | rfl
      · omega
      · exact last
  · subst e
    by_cases c : ws.getD 0 0 = 0
    · by_cases c1 : ws.getD 1 0 = 0
      · refine mk 2 (by omega) (fun i hi => ?_) (fun i h hi => ?_)
        · rcases (by omega : i = 0 ∨ i = 1) with rfl | rfl
          · exact c
          · exact c1
        · obtain rfl : i = 2 := by omega
          exact last
      · have := (hW 1 (by omega)).1
        refine mk 1 (by omega) (fun i hi => ?_) (fun i h hi => ?_)
        · obtain rfl : i = 0 := by omega
          exact c
        · rcases (by omega : i = 1 ∨ i = 2) with rfl | rfl
          · omega
          · exact last
    · have h1 := mid rfl c
      refine mk 0 (by omega) (fun i hi => by omega) (fun i _ hi => ?_)
      rcases (by omega : i = 0 ∨ i = 1 ∨ i = 2) with rfl | rfl | rfl
      · omega
      · exact h1
      · exact last
end Mine
end
section
open PySem PySem.W PyProof.Rows
set_option maxRecDepth 100000
namespace Mine
theorem mulP_small {n limit : Int} (hl1 : limit ≤ 150) : ∀ k, mulP n limit k = true → 0 ≤ k ∧ k ≤ 150 := by
  intro k h
  simp only [mulP, decide_eq_true_eq] at h
  omega
theorem bm_encode (w : World) (mean : ExcName → Option Value) (mg mb : Str → Option Value) (dp un : Nat) (gd : Option (List Code)) (cn : Str) (cs : Scope) (a : Addr) (ccd : Value) (cl : List (Str × Addr)) (outer : List Env) (A₀ : Around) (base h₀ : Heap) (L : Addr) (m : Str → Option Value) (news : Ledger) (sa : Addr) (so : Obj) (s : Shared) (Q E : Value → Shared → Prop)
    (B : Below A₀ base outer h₀) (F : Fr h₀ L s.heap m) (X : (Mine.hd.heap_39 w.params).In h₀) (N : News h₀ L s.heap ((sa, so) :: news)) (T : Top Mine.hd.view_39 (looseW Mine.hd.view_39 [Str.ofString "struct", Str.ofString "BytesIO"]) mean mg mb h₀) (hk : cs.kind = .function) (hd : dp + 20 < recursionLimit) (hu : un + 200 < cLine)
    (x dx : Addr) (t1 t2 t3 : Tok) (c : Int) (n limit : Int)
    (hx : (x, instObj 173 dx) ∈ news) (hdx : (dx, bmDict w t1 t2 sa c t3) ∈ news) (off : AllLt sa news) (SA : SetS true (ledOf w) so (mulP n limit)) (hn0 : 2 ≤ n) (hn1 : n ≤ 141) (hl0 : 0 < limit) (hl1 : limit ≤ 150)
    (hret : ∀ (D : Array UInt8) (t : Tok) (h' : Heap) (tk' : Nat), Fr h₀ L h' m → News h₀ L h' news → Enc (mulP n limit) D → Q (.bytes D t) { s with heap := h', toks := tk' }) :
    wpAny (model Challenge.rw_bh0020_01.row.prog w) (ktrTop dp un gd cn cs L a ccd cl outer) (call (.ref 121) [.ref x]) Q E s := by
  by_cases hc : cnt (mulP n limit) = 0
  · exact bm_encode0 w mean mg mb dp un gd cn cs a ccd cl outer A₀ base h₀ L m news sa so s Q E B F X N T hk hd hu x dx t1 t2 t3 c _ hx hdx off SA hc hret
  · exact bm_encode1 w mean mg mb dp un gd cn cs a ccd cl outer A₀ base h₀ L m news sa so s Q E B F X N T hk hd hu x dx t1 t2 t3 c _ hx hdx off SA hc (mulP_small hl1) (shape_mulP hn0 hn1 hl0 hl1) hret
theorem cnt_zero {P : Int → Bool} (h : cnt P = 0) (hP : ∀ k, P k = true → 0 ≤ k ∧ k ≤ 150) : ∀ k, P k = false := by
  intro k
  cases hk : P k with
  | false => rfl
  | true =>
    exfalso
    have hb := hP k hk
    unfold cnt at h
    rw [List.countP_eq_zero] at h
    have := h k.toNat (List.mem_range.mpr (by omega))
    rw [show ((k.toNat : Nat) : Int) = k by omega] at this
    exact this hk
theorem bm_decode (w : World) (mean : ExcName → Option Value) (mg mb : Str → Option Value) (dp un : Nat) (gd : Option (List Code)) (cn : Str) (cs : Scope) (a : Addr) (ccd : Value) (cl : List (Str × Addr)) (outer : List Env) (A₀ : Around) (base h₀ : Heap) (L : Addr) (m : Str → Option Value) (news : Ledger) (s : Shared) (Q E : Value → Shared → Prop)
    (B : Below A₀ base outer h₀) (F : Fr h₀ L s.heap m) (X : (Mine.hd.heap_39 w.params).In h₀) (N : News h₀ L s.heap news) (T : Top Mine.hd.view_39 (looseW Mine.hd.view_39 [Str.ofString "struct", Str.ofString "BytesIO"]) mean mg mb h₀) (hk : cs.kind = .function) (hd : dp + 20 < recursionLimit) (hu : un + 200 < cLine)
    (D : Array UInt8) (t : Tok) (P : Int → Bool) (hD : Enc P D) (hP : ∀ k, P k = true → 0 ≤ k ∧ k ≤ 150)
    (hret : ∀ (x dx sa : Addr) (so : Obj) (t1 t2 t3 : Tok) (c : Int) (h' : Heap) (tk' : Nat), Fr h₀ L h' m → News h₀ L h' ((sa, so) :: (x, instObj 173 dx) :: (dx, bmDict w t1 t2 sa c t3) :: news) →
      AllLt dx news → @LT.lt Nat _ dx x → @LT.lt Nat _ x sa → SetS true (ledOf w) so P → Q (.ref x) { s with heap := h', toks := tk' }) :
    wpAny (model Challenge.rw_bh0020_01.row.prog w) (ktrTop dp un gd cn cs L a ccd cl outer) (call (.ref 173) [.bytes D t]) Q E s := by
  rcases hD with ⟨hc, hD⟩ | ⟨mx, z, n, ws, hPm, h0, h1, hW, C, z0, zn, hn, hl, hD⟩
  · exact bm_decode0 w mean mg mb dp un gd cn cs a ccd cl outer A₀ base h₀ L m news s Q E B F X N T hk hd hu D t P _ [] hD (by unfold DecKs; simp) (by simp only [List.length_append, big_len, List.length_nil]; rfl) rfl (by intro c hc; cases hc) (cnt_zero hc hP) hret
  · obtain ⟨hcl, hcc⟩ := comp_facts C z0 zn hn hl
    have K : DecKs (((big 4 (mx + 1) ++ big 4 (n - z + 1)) ++ ((8589934592 * (n - z) + 2 * z) :: ws.drop z.toNat).flatMap (big 8)) ++ big 4 0) (mx + 1) ((8589934592 * (n - z) + 2 * z) :: ws.drop z.toNat) := by
      unfold DecKs; rw [hcl]
    have hnw : (mx + 1 + 63).fdiv 64 = n := by
      have e := hW.1
      rw [Int.fdiv_eq_ediv_of_nonneg _ (by omega)] at e ⊢
      omega
    rw [hnw] at hW
    refine bm_decode1 w mean mg mb dp un gd cn cs a ccd cl outer A₀ base h₀ L m news s Q E B F X N T hk hd hu D t P _ _ ws mx z n hD K K.len rfl (fun i => ?_) hcl hcc C z0 zn hn hl h0 h1 hnw hW hP (fun k hk => ?_) hret
    · rw [List.getD_eq_getElem?_getD, List.getElem?_cons_succ, List.getElem?_drop, ← List.getD_eq_getElem?_getD]
    · have := (hPm k hk).2
      rw [Int.fdiv_eq_ediv_of_nonneg _ (by omega)] at hnw
      omega
end Mine
end
section
open PySem PySem.W PyProof.Rows
set_option maxRecDepth 100000
set_option maxHeartbeats 8000000
namespace Mine
local macro_rules | `(tactic| walk_at "pad 0") => `(tactic| skip)
local macro_rules | `(tactic| walk_at "pad 1") => `(tactic| skip)
local macro_rules | `(tactic| walk_at "pad 2") => `(tactic| skip)
local macro_rules | `(tactic| walk_at "pad 3") => `(tactic| skip)
local macro_rules | `(tactic| walk_at "pad 4") => `(tactic| skip)
local macro_rules | `(tactic| walk_at "pad 5") => `(tactic| skip)
local macro_rules | `(tactic| walk_at "pad 6") => `(tactic| skip)
local macro_rules | `(tactic| walk_at "pad 7") => `(tactic| skip)
local macro_rules | `(tactic| walk_at "pad 8") => `(tactic| skip)
local macro_rules | `(tactic| walk_at "pad 9") => `(tactic| skip)
local macro_rules | `(tactic| walk_at "pad 10") => `(tactic| skip)
local macro_rules | `(tactic| walk_at "pad 11") => `(tactic| skip)
local macro_rules | `(tactic| walk_at "pad 12") => `(tactic| skip)
local macro_rules | `(tactic| walk_at "pad 13") => `(tactic| skip)
local macro_rules | `(tactic| walk_at "pad 14") => `(tactic| skip)
local macro_rules | `(tactic| walk_at "pad 15") => `(tactic| skip)
local macro_rules | `(tactic| walk_at "pad 16") => `(tactic| skip)
local macro_rules | `(tactic| walk_at "pad 17") => `(tactic| skip)
local macro_rules | `(tactic| walk_at "pad 18") => `(tactic| skip)
local macro_rules | `(tactic| walk_at "pad 19") => `(tactic| skip)
local macro_rules | `(tactic| walk_at "pad 20") => `(tactic| skip)
local macro_rules | `(tactic| walk_at "pad 21") => `(tactic| skip)
local macro_rules | `(tactic| walk_at "pad 22") => `(tactic| skip)
local macro_rules | `(tactic| walk_at "call ref") => `(tactic| (k_here; (with_reducible show wpAny _ _ (call (Value.ref 184) _ _) _ _ _); (k_dflt (refine' bm_at _ _ _ _ _ _ _ _ _ _ _ _ _ _ _ _ _ _ _ _ _ _ ?kB ?kF ?kX ?kN ?kT ?kk ?kd ?ku _ _ _ ?kl ?ki ?kln _ _ _ _ ?k0 ?k1 ?_; (case kB => k_asm); (case kF => k_asm); (case kX => k_asm); (case kN => k_asm); (case kT => k_asm); (case kk => first | exact rfl | assumption); (case kd => ktr_room); (case ku => ktr_units); (case kl => k_asm); (case ki => k_asm); (case kln => omega); (case k0 => omega); (case k1 => omega); k_whole)); intro t' h' tk' F' N'))
local macro_rules | `(tactic| walk_at "call ref") => `(tactic| (k_here; (with_reducible show wpAny _ _ (call (Value.ref 173) _ _) _ _ _); (k_dflt (refine' bm_new _ _ _ _ _ _ _ _ _ _ _ _ _ _ _ _ _ _ _ _ _ _ ?kB ?kF ?kX ?kN ?kT ?kk ?kd ?ku  ?_; (case kB => k_asm); (case kF => k_asm); (case kX => k_asm); (case kN => k_asm); (case kT => k_asm); (case kk => first | exact rfl | assumption); (case kd => ktr_room); (case ku => ktr_units);  k_whole)); intro x' d' a' o' t1' t2' t3' h' tk' F' N' l1 l2 l3 hs'; (try simp only [AllLt, and_true] at l1); (try dsimp only [bmDict] at N')))
local macro_rules | `(tactic| walk_at "call ref") => `(tactic| (k_here; (with_reducible show wpAny _ _ (call (Value.ref 191) _ _) _ _ _); (k_dflt (refine' bm_multiple _ _ _ _ _ _ _ _ _ _ _ _ _ _ _ _ _ _ _ _ _ _ ?kB ?kF ?kX ?kN ?kT ?kk ?kd ?ku _ _ _ ?kl ?ki _ _ _ _ ?k0 ?k1 ?k2 ?k3 ?_; (case kB => k_asm); (case kF => k_asm); (case kX => k_asm); (case kN => k_asm); (case kT => k_asm); (case kk => first | exact rfl | assumption); (case kd => ktr_room); (case ku => ktr_units); (case kl => k_asm); (case ki => k_asm); (case k0 => omega); (case k1 => omega); (case k2 => omega); (case k3 => omega); k_whole)); intro t' h' tk' F' N'))
local macro_rules | `(tactic| walk_at "binaryOp BitOr") => `(tactic| (k_here; (with_reducible show wpAny _ _ (binaryOp Operator.BitOr (Value.ref _) (Value.ref _)) _ _ _); (k_dflt (refine' bm_or _ _ _ _ _ _ _ _ _ _ _ _ _ _ _ _ _ _ _ _ _ _ ?kB ?kF ?kX ?kN ?kT ?kk ?kd ?ku _ _ _ _ _ _ _ _ _ _ _ _ _ _ _ _ _ _ _ _ ?m1 ?m2 ?m3 ?m4 ?m5 ?m6 ?s1 ?s2 ?ne ?_; (case kB => k_asm); (case kF => k_asm); (case kX => k_asm); (case kN => k_asm); (case kT => k_asm); (case kk => first | exact rfl | assumption); (case kd => ktr_room); (case ku => ktr_units); (case m1 => k_mem); (case m2 => k_mem); (case m3 => k_mem); (case m4 => k_mem); (case m5 => k_mem); (case m6 => k_mem); (case s1 => assumption); (case s2 => assumption); (case ne => ((show @Ne Nat _ _); omega)); k_whole)); intro x' d' a' o' c' t1' t2' t3' h' tk' F' N' l1 l2 l3 hs'; (try simp only [AllLt, and_true] at l1); (try dsimp only [bmDict] at N')))
local macro_rules | `(tactic| walk_at "binaryOp BitAnd") => `(tactic| (k_here; (with_reducible show wpAny _ _ (binaryOp Operator.BitAnd (Value.ref _) (Value.ref _)) _ _ _); (k_dflt (refine' bm_and _ _ _ _ _ _ _ _ _ _ _ _ _ _ _ _ _ _ _ _ _ _ ?kB ?kF ?kX ?kN ?kT ?kk ?kd ?ku _ _ _ _ _ _ _ _ _ _ _ _ _ _ _ _ _ _ _ _ ?m1 ?m2 ?m3 ?m4 ?m5 ?m6 ?s1 ?s2 ?ne ?_; (case kB => k_asm); (case kF => k_asm); (case kX => k_asm); (case kN => k_asm); (case kT => k_asm); (case kk => first | exact rfl | assumption); (case kd => ktr_room); (case ku => ktr_units); (case m1 => k_mem); (case m2 => k_mem); (case m3 => k_mem); (case m4 => k_mem); (case m5 => k_mem); (case m6 => k_mem); (case s1 => assumption); (case s2 => assumption); (case ne => ((show @Ne Nat _ _); omega)); k_whole)); intro x' d' a' o' c' t1' t2' t3' h' tk' F' N' l1 l2 l3 hs'; (try simp only [AllLt, and_true] at l1); (try dsimp only [bmDict] at N')))
local macro_rules | `(tactic| walk_at "binaryOp BitXor") => `(tactic| (k_here; (with_reducible show wpAny _ _ (binaryOp Operator.BitXor (Value.ref _) (Value.ref _)) _ _ _); (k_dflt (refine' bm_xor _ _ _ _ _ _ _ _ _ _ _ _ _ _ _ _ _ _ _ _ _ _ ?kB ?kF ?kX ?kN ?kT ?kk ?kd ?ku _ _ _ _ _ _ _ _ _ _ _ _ _ _ _ _ _ _ _ _ ?m1 ?m2 ?m3 ?m4 ?m5 ?m6 ?s1 ?s2 ?_; (case kB => k_asm); (case kF => k_asm); (case kX => k_asm); (case kN => k_asm); (case kT => k_asm); (case kk => first | exact rfl | assumption); (case kd => ktr_room); (case ku => ktr_units); (case m1 => k_mem); (case m2 => k_mem); (case m3 => k_mem); (case m4 => k_mem); (case m5 => k_mem); (case m6 => k_mem); (case s1 => assumption); (case s2 => assumption); k_whole)); intro x' d' a' o' c' t1' t2' t3' h' tk' F' N' l1 l2 l3 hs'; (try simp only [AllLt, and_true] at l1); (try dsimp only [bmDict] at N')))
local macro_rules | `(tactic| walk_at "binaryOp Sub") => `(tactic| (k_here; (with_reducible show wpAny _ _ (binaryOp Operator.Sub (Value.ref _) (Value.ref _)) _ _ _); (k_dflt (refine' bm_sub _ _ _ _ _ _ _ _ _ _ _ _ _ _ _ _ _ _ _ _ _ _ ?kB ?kF ?kX ?kN ?kT ?kk ?kd ?ku _ _ _ _ _ _ _ _ _ _ _ _ _ _ _ _ _ _ _ _ ?m1 ?m2 ?m3 ?m4 ?m5 ?m6 ?s1 ?s2 ?_; (case kB => k_asm); (case kF => k_asm); (case kX => k_asm); (case kN => k_asm); (case kT => k_asm); (case kk => first | exact rfl | assumption); (case kd => ktr_room); (case ku => ktr_units); (case m1 => k_mem); (case m2 => k_mem); (case m3 => k_mem); (case m4 => k_mem); (case m5 => k_mem); (case m6 => k_mem); (case s1 => assumption); (case s2 => assumption); k_whole)); intro x' d' a' o' c' t1' t2' t3' h' tk' F' N' l1 l2 l3 hs'; (try simp only [AllLt, and_true] at l1); (try dsimp only [bmDict] at N')))
local macro_rules | `(tactic| walk_at "call builtin:len") => `(tactic| (k_here; (with_reducible show wpAny _ _ (call (Value.builtin "len") [Value.ref _] _) _ _ _); (k_dflt (refine' bm_len _ _ _ _ _ _ _ _ _ _ _ _ _ _ _ _ _ _ _ _ _ _ ?kB ?kF ?kX ?kN ?kT ?kk ?kd ?ku _ _ _ _ _ _ _ _ _ _ ?m1 ?m2 ?m3 ?s1 ?_; (case kB => k_asm); (case kF => k_asm); (case kX => k_asm); (case kN => k_asm); (case kT => k_asm); (case kk => first | exact rfl | assumption); (case kd => ktr_room); (case ku => ktr_units); (case m1 => k_mem); (case m2 => k_mem); (case m3 => k_mem); (case s1 => assumption); k_whole)); intro t' h' tk' F' N'))
local macro_rules | `(tactic| walk_at "call ref") => `(tactic| (k_here; (with_reducible show wpAny _ _ (call (Value.ref 196) _ _) _ _ _); (k_dflt (refine' bm_same _ _ _ _ _ _ _ _ _ _ _ _ _ _ _ _ _ _ _ _ _ _ ?kB ?kF ?kX ?kN ?kT ?kk ?kd ?ku _ _ _ _ _ _ _ _ _ _ _ _ _ _ _ _ _ _ _ _ _ _ ?m1 ?m2 ?m3 ?m4 ?m5 ?m6 ?s1 ?s2 ?l0 ?l1 ?eq ?_; (case kB => k_asm); (case kF => k_asm); (case kX => k_asm); (case kN => k_asm); (case kT => k_asm); (case kk => first | exact rfl | assumption); (case kd => ktr_room); (case ku => ktr_units); (case m1 => k_mem); (case m2 => k_mem); (case m3 => k_mem); (case m4 => k_mem); (case m5 => k_mem); (case m6 => k_mem); (case s1 => assumption); (case s2 => assumption); (case l0 => omega); (case l1 => omega); (case eq => walk_at "same_eq"); k_whole)); intro h' tk' F' N'))
local macro_rules | `(tactic| k_mem) => `(tactic| ((fail_if_success (refine' List.Mem.tail _ ?_)); assumption))
local macro_rules | `(tactic| walk_at "compareOp NotEq ref ref") => `(tactic| (k_here; (with_reducible show wpAny _ _ (compareOp CmpOp.NotEq (Value.ref _) (Value.ref _)) _ _ _); (k_dflt (refine' ne_ints_same ?N ?m1 ?m2 ?hi ?hj ?hu ?_; (case N => k_asm); (case m1 => k_mem); (case m2 => k_mem); (case hi => exact .cons _ _ (.cons _ _ (.cons _ _ .nil))); (case hj => assumption); (case hu => exact Nat.le_of_ble_eq_true rfl)))))
local macro_rules | `(tactic| walk_at "CompEnd") => `(tactic| (k_dflt (refine' LCg.CompEnd.intro ?F ?N _ (fun p hp => hp) ?off ?S ?_; (case F => assumption); (case N => assumption); (case off => (first | assumption | ((simp only [LCg.Off3]); assumption))); (case S => exact Or.inr ⟨_, (by k_mem), rfl, _, rfl⟩))))
local macro_rules | `(tactic| walk_at "exec Return some") => `(tactic| (refine Stop.out ?_))
theorem stage_b (w : World) (mean : ExcName → Option Value) (mg mb : Str → Option Value) (fa : Addr) (cd : Value) (h₀ : Heap) (s : Shared) (Q : Flow → Shared → Prop) (E : Value → Shared → Prop) (m : Str → Option Value) (news : Ledger)
    (nm : Str) (args : Arguments) (body : List Stmt) (decs : List Expr) (ret : Option Expr) (tps : List TypeParam) (scope : Scope) (tscope : Option Scope) (bind : Str) (pos : Pos)
    (hlaw : Challenge.pw_bh0020_01.main.body.getLast? = some (Stmt.FunctionDef nm args body decs ret tps scope tscope bind pos))
    (B : Below callerA h₀ [] h₀) (X : (Mine.hd.heap_39 w.params).In h₀) (T : Top Mine.hd.view_39 (looseW Mine.hd.view_39 [Str.ofString "struct", Str.ofString "BytesIO"]) mean mg mb h₀)
    (P0 P1 P2 : Int → Bool) (x0 d0 s0 : Addr) (so0 : Obj) (c0 : Int) (t01 t02 t03 : Tok) (hx0 : (x0, instObj 173 d0) ∈ news) (hd0 : (d0, bmDict w t01 t02 s0 c0 t03) ∈ news) (S0 : SetS true (ledOf w) so0 P0)
    (x1 d1 s1 : Addr) (so1 : Obj) (c1 : Int) (t11 t12 t13 : Tok) (hx1 : (x1, instObj 173 d1) ∈ news) (hd1 : (d1, bmDict w t11 t12 s1 c1 t13) ∈ news) (S1 : SetS true (ledOf w) so1 P1)
    (x2 d2 s2 : Addr) (so2 : Obj) (c2 : Int) (t21 t22 t23 : Tok) (hx2 : (x2, instObj 173 d2) ∈ news) (hd2 : (d2, bmDict w t21 t22 s2 c2 t23) ∈ news) (S2 : SetS true (ledOf w) so2 P2)
    (ne01 : @Ne Nat s0 s1) (ne02 : @Ne Nat s0 s2) (ne12 : @Ne Nat s1 s2)
    (lm ls ld : Addr) (ys yd : List Value) (g0 g1 g2 g01 g02 g12 g012 : Int) (tt : Tok) (hlm : (lm, W.listOf (((#[].push (Value.ref x0)).push (Value.ref x1)).push (Value.ref x2)) (0 + 1 + 1 + 1)) ∈ news) (hls : (ls, LCg.lst ys) ∈ news) (hld : (ld, LCg.lst yd) ∈ news)
    (hys : IntsAre ys [g0, g1, g2]) (hyd : IntsAre yd [g01, g02, g12])
    (q0 : (cnt P0 : Int) = g0) (q1 : (cnt P1 : Int) = g1) (q2 : (cnt P2 : Int) = g2) (q01 : (cnt (fun k => P0 k && P1 k) : Int) = g01) (q02 : (cnt (fun k => P0 k && P2 k) : Int) = g02) (q12 : (cnt (fun k => P1 k && P2 k) : Int) = g12) (q012 : (cnt (fun k => (P0 k && P1 k) && P2 k) : Int) = g012)
    (hm_maps : m (Str.ofString "maps") = some (.ref lm)) (hm_singles : m (Str.ofString "singles") = some (.ref ls)) (hm_doubles : m (Str.ofString "doubles") = some (.ref ld)) (hm_triple : m (Str.ofString "triple") = some (.int g012 tt)) (hm_first : m (Str.ofString "first") = some (.ref x0)) (hm_second : m (Str.ofString "second") = some (.ref x1)) (hm_third : m (Str.ofString "third") = some (.ref x2))
    (F : Fr h₀ h₀.objs.size s.heap m)
    (N : News h₀ h₀.objs.size s.heap ((s0, so0) :: (s1, so1) :: (s2, so2) :: news))
    (hret : ∀ (h' : Heap) (tk' : Nat), Fr h₀ h₀.objs.size h' m → News h₀ h₀.objs.size h' ((s0, so0) :: (s1, so1) :: (s2, so2) :: news) → Q .next { s with heap := h', toks := tk' }) :
    wpAny (model Challenge.rw_bh0020_01.row.prog w) (callerA.deeper (envOfC nm scope h₀.objs.size fa cd)) (exec ((body.drop 13).headD (Stmt.Pass default)) (envOfC nm scope h₀.objs.size fa cd)) Q E s := by
  obtain ⟨u, e⟩ : ∃ u : Str → Option Value, m = (fun y => if y = Str.ofString "maps" then some (.ref lm) else if y = Str.ofString "singles" then some (.ref ls) else if y = Str.ofString "doubles" then some (.ref ld) else if y = Str.ofString "triple" then some (.int g012 tt) else if y = Str.ofString "first" then some (.ref x0) else if y = Str.ofString "second" then some (.ref x1) else if y = Str.ofString "third" then some (.ref x2) else u y) := ⟨m, fr_cons hm_maps (fr_cons hm_singles (fr_cons hm_doubles (fr_cons hm_triple (fr_cons hm_first (fr_cons hm_second (fr_cons hm_third (rfl)))))))⟩
  clear hm_maps hm_singles hm_doubles hm_triple hm_first hm_second hm_third
  subst e
  w_top off
  k_with_none
  have hfill : Challenge.rw_bh0020_01 = Challenge.rw_bh0020_01 ∧ (Mine.hd.heap_39 w.params).In h₀ := ⟨rfl, X⟩
  revert hfill
  k_fill
  intro hfill
  clear hfill
  unfold Challenge.pw_bh0020_01 at hlaw
  simp only [List.getLast?_cons_cons, List.getLast?_singleton, Option.some.injEq] at hlaw
  injection hlaw with h1 h2 h3 h4 h5 h6 h7 h8 h9 h10
  subst h1 h3 h7
  clear h2 h4 h5 h6 h8 h9 h10 args decs ret tps tscope bind pos
  (try dsimp only [List.drop, List.headD])
  subst q0 q1 q2 q01 q02 q12
  k_steps
  all_goals try omega
  exact hret _ _ (by assumption) (cb_drop (by assumption) (fun p hp => by repeat (first | exact hp | apply List.Mem.tail)))
end Mine
end
section
open PySem PySem.W PyProof.Rows
set_option maxRecDepth 100000
set_option maxHeartbeats 8000000
namespace Mine
local macro_rules | `(tactic| walk_at "pad 0") => `(tactic| skip)
local macro_rules | `(tactic| walk_at "pad 1") => `(tactic| skip)
local macro_rules | `(tactic| walk_at "pad 2") => `(tactic| skip)
local macro_rules | `(tactic| walk_at "pad 3") => `(tactic| skip)
local macro_rules | `(tactic| walk_at "pad 4") => `(tactic| skip)
local macro_rules | `(tactic| walk_at "pad 5") => `(tactic| skip)
local macro_rules | `(tactic| walk_at "pad 6") => `(tactic| skip)
local macro_rules | `(tactic| walk_at "pad 7") => `(tactic| skip)
local macro_rules | `(tactic| walk_at "pad 8") => `(tactic| skip)
local macro_rules | `(tactic| walk_at "pad 9") => `(tactic| skip)
local macro_rules | `(tactic| walk_at "pad 10") => `(tactic| skip)
local macro_rules | `(tactic| walk_at "pad 11") => `(tactic| skip)
local macro_rules | `(tactic| walk_at "pad 12") => `(tactic| skip)
local macro_rules | `(tactic| walk_at "pad 13") => `(tactic| skip)
local macro_rules | `(tactic| walk_at "pad 14") => `(tactic| skip)
local macro_rules | `(tactic| walk_at "pad 15") => `(tactic| skip)
local macro_rules | `(tactic| walk_at "pad 16") => `(tactic| skip)
local macro_rules | `(tactic| walk_at "pad 17") => `(tactic| skip)
local macro_rules | `(tactic| walk_at "pad 18") => `(tactic| skip)
local macro_rules | `(tactic| walk_at "pad 19") => `(tactic| skip)
local macro_rules | `(tactic| walk_at "pad 20") => `(tactic| skip)
local macro_rules | `(tactic| walk_at "pad 21") => `(tactic| skip)
local macro_rules | `(tactic| walk_at "pad 22") => `(tactic| skip)
local macro_rules | `(tactic| walk_at "pad 23") => `(tactic| skip)
local macro_rules | `(tactic| walk_at "pad 24") => `(tactic| skip)
local macro_rules | `(tactic| walk_at "call ref") => `(tactic| (k_here; (with_reducible show wpAny _ _ (call (Value.ref 184) _ _) _ _ _); (k_dflt (refine' bm_at _ _ _ _ _ _ _ _ _ _ _ _ _ _ _ _ _ _ _ _ _ _ ?kB ?kF ?kX ?kN ?kT ?kk ?kd ?ku _ _ _ ?kl ?ki ?kln _ _ _ _ ?k0 ?k1 ?_; (case kB => k_asm); (case kF => k_asm); (case kX => k_asm); (case kN => k_asm); (case kT => k_asm); (case kk => first | exact rfl | assumption); (case kd => ktr_room); (case ku => ktr_units); (case kl => k_asm); (case ki => k_asm); (case kln => omega); (case k0 => omega); (case k1 => omega); k_whole)); intro t' h' tk' F' N'))
local macro_rules | `(tactic| walk_at "call ref") => `(tactic| (k_here; (with_reducible show wpAny _ _ (call (Value.ref 173) _ _) _ _ _); (k_dflt (refine' bm_new _ _ _ _ _ _ _ _ _ _ _ _ _ _ _ _ _ _ _ _ _ _ ?kB ?kF ?kX ?kN ?kT ?kk ?kd ?ku  ?_; (case kB => k_asm); (case kF => k_asm); (case kX => k_asm); (case kN => k_asm); (case kT => k_asm); (case kk => first | exact rfl | assumption); (case kd => ktr_room); (case ku => ktr_units);  k_whole)); intro x' d' a' o' t1' t2' t3' h' tk' F' N' l1 l2 l3 hs'; (try simp only [AllLt, and_true] at l1); (try dsimp only [bmDict] at N')))
local macro_rules | `(tactic| walk_at "call ref") => `(tactic| (k_here; (with_reducible show wpAny _ _ (call (Value.ref 191) _ _) _ _ _); (k_dflt (refine' bm_multiple _ _ _ _ _ _ _ _ _ _ _ _ _ _ _ _ _ _ _ _ _ _ ?kB ?kF ?kX ?kN ?kT ?kk ?kd ?ku _ _ _ ?kl ?ki _ _ _ _ ?k0 ?k1 ?k2 ?k3 ?_; (case kB => k_asm); (case kF => k_asm); (case kX => k_asm); (case kN => k_asm); (case kT => k_asm); (case kk => first | exact rfl | assumption); (case kd => ktr_room); (case ku => ktr_units); (case kl => k_asm); (case ki => k_asm); (case k0 => omega); (case k1 => omega); (case k2 => omega); (case k3 => omega); k_whole)); intro t' h' tk' F' N'))
local macro_rules | `(tactic| walk_at "binaryOp BitOr") => `(tactic| (k_here; (with_reducible show wpAny _ _ (binaryOp Operator.BitOr (Value.ref _) (Value.ref _)) _ _ _); (k_dflt (refine' bm_or _ _ _ _ _ _ _ _ _ _ _ _ _ _ _ _ _ _ _ _ _ _ ?kB ?kF ?kX ?kN ?kT ?kk ?kd ?ku _ _ _ _ _ _ _ _ _ _ _ _ _ _ _ _ _ _ _ _ ?m1 ?m2 ?m3 ?m4 ?m5 ?m6 ?s1 ?s2 ?ne ?_; (case kB => k_asm); (case kF => k_asm); (case kX => k_asm); (case kN => k_asm); (case kT => k_asm); (case kk => first | exact rfl | assumption); (case kd => ktr_room); (case ku => ktr_units); (case m1 => k_mem); (case m2 => k_mem); (case m3 => k_mem); (case m4 => k_mem); (case m5 => k_mem); (case m6 => k_mem); (case s1 => assumption); (case s2 => assumption); (case ne => ((show @Ne Nat _ _); omega)); k_whole)); intro x' d' a' o' c' t1' t2' t3' h' tk' F' N' l1 l2 l3 hs'; (try simp only [AllLt, and_true] at l1); (try dsimp only [bmDict] at N')))
local macro_rules | `(tactic| walk_at "binaryOp BitAnd") => `(tactic| (k_here; (with_reducible show wpAny _ _ (binaryOp Operator.BitAnd (Value.ref _) (Value.ref _)) _ _ _); (k_dflt (refine' bm_and _ _ _ _ _ _ _ _ _ _ _ _ _ _ _ _ _ _ _ _ _ _ ?kB ?kF ?kX ?kN ?kT ?kk ?kd ?ku _ _ _ _ _ _ _ _ _ _ _ _ _ _ _ _ _ _ _ _ ?m1 ?m2 ?m3 ?m4 ?m5 ?m6 ?s1 ?s2 ?ne ?_; (case kB => k_asm); (case kF => k_asm); (case kX => k_asm); (case kN => k_asm); (case kT => k_asm); (case kk => first | exact rfl | assumption); (case kd => ktr_room); (case ku => ktr_units); (case m1 => k_mem); (case m2 => k_mem); (case m3 => k_mem); (case m4 => k_mem); (case m5 => k_mem); (case m6 => k_mem); (case s1 => assumption); (case s2 => assumption); (case ne => ((show @Ne Nat _ _); omega)); k_whole)); intro x' d' a' o' c' t1' t2' t3' h' tk' F' N' l1 l2 l3 hs'; (try simp only [AllLt, and_true] at l1); (try dsimp only [bmDict] at N')))
local macro_rules | `(tactic| walk_at "binaryOp BitXor") => `(tactic| (k_here; (with_reducible show wpAny _ _ (binaryOp Operator.BitXor (Value.ref _) (Value.ref _)) _ _ _); (k_dflt (refine' bm_xor _ _ _ _ _ _ _ _ _ _ _ _ _ _ _ _ _ _ _ _ _ _ ?kB ?kF ?kX ?kN ?kT ?kk ?kd ?ku _ _ _ _ _ _ _ _ _ _ _ _ _ _ _ _ _ _ _ _ ?m1 ?m2 ?m3 ?m4 ?m5 ?m6 ?s1 ?s2 ?_; (case kB => k_asm); (case kF => k_asm); (case kX => k_asm); (case kN => k_asm); (case kT => k_asm); (case kk => first | exact rfl | assumption); (case kd => ktr_room); (case ku => ktr_units); (case m1 => k_mem); (case m2 => k_mem); (case m3 => k_mem); (case m4 => k_mem); (case m5 => k_mem); (case m6 => k_mem); (case s1 => assumption); (case s2 => assumption); k_whole)); intro x' d' a' o' c' t1' t2' t3' h' tk' F' N' l1 l2 l3 hs'; (try simp only [AllLt, and_true] at l1); (try dsimp only [bmDict] at N')))
local macro_rules | `(tactic| walk_at "binaryOp Sub") => `(tactic| (k_here; (with_reducible show wpAny _ _ (binaryOp Operator.Sub (Value.ref _) (Value.ref _)) _ _ _); (k_dflt (refine' bm_sub _ _ _ _ _ _ _ _ _ _ _ _ _ _ _ _ _ _ _ _ _ _ ?kB ?kF ?kX ?kN ?kT ?kk ?kd ?ku _ _ _ _ _ _ _ _ _ _ _ _ _ _ _ _ _ _ _ _ ?m1 ?m2 ?m3 ?m4 ?m5 ?m6 ?s1 ?s2 ?_; (case kB => k_asm); (case kF => k_asm); (case kX => k_asm); (case kN => k_asm); (case kT => k_asm); (case kk => first | exact rfl | assumption); (case kd => ktr_room); (case ku => ktr_units); (case m1 => k_mem); (case m2 => k_mem); (case m3 => k_mem); (case m4 => k_mem); (case m5 => k_mem); (case m6 => k_mem); (case s1 => assumption); (case s2 => assumption); k_whole)); intro x' d' a' o' c' t1' t2' t3' h' tk' F' N' l1 l2 l3 hs'; (try simp only [AllLt, and_true] at l1); (try dsimp only [bmDict] at N')))
local macro_rules | `(tactic| walk_at "call builtin:len") => `(tactic| (k_here; (with_reducible show wpAny _ _ (call (Value.builtin "len") [Value.ref _] _) _ _ _); (k_dflt (refine' bm_len _ _ _ _ _ _ _ _ _ _ _ _ _ _ _ _ _ _ _ _ _ _ ?kB ?kF ?kX ?kN ?kT ?kk ?kd ?ku _ _ _ _ _ _ _ _ _ _ ?m1 ?m2 ?m3 ?s1 ?_; (case kB => k_asm); (case kF => k_asm); (case kX => k_asm); (case kN => k_asm); (case kT => k_asm); (case kk => first | exact rfl | assumption); (case kd => ktr_room); (case ku => ktr_units); (case m1 => k_mem); (case m2 => k_mem); (case m3 => k_mem); (case s1 => assumption); k_whole)); intro t' h' tk' F' N'))
local macro_rules | `(tactic| walk_at "call ref") => `(tactic| (k_here; (with_reducible show wpAny _ _ (call (Value.ref 196) _ _) _ _ _); (k_dflt (refine' bm_same _ _ _ _ _ _ _ _ _ _ _ _ _ _ _ _ _ _ _ _ _ _ ?kB ?kF ?kX ?kN ?kT ?kk ?kd ?ku _ _ _ _ _ _ _ _ _ _ _ _ _ _ _ _ _ _ _ _ _ _ ?m1 ?m2 ?m3 ?m4 ?m5 ?m6 ?s1 ?s2 ?l0 ?l1 ?eq ?_; (case kB => k_asm); (case kF => k_asm); (case kX => k_asm); (case kN => k_asm); (case kT => k_asm); (case kk => first | exact rfl | assumption); (case kd => ktr_room); (case ku => ktr_units); (case m1 => k_mem); (case m2 => k_mem); (case m3 => k_mem); (case m4 => k_mem); (case m5 => k_mem); (case m6 => k_mem); (case s1 => assumption); (case s2 => assumption); (case l0 => omega); (case l1 => omega); (case eq => walk_at "same_eq"); k_whole)); intro h' tk' F' N'))
local macro_rules | `(tactic| k_mem) => `(tactic| ((fail_if_success (refine' List.Mem.tail _ ?_)); assumption))
local macro_rules | `(tactic| walk_at "call builtin:sum") => `(tactic| (k_here; (with_reducible show wpAny _ _ (call (Value.builtin "sum") [Value.ref _]) _ _ _); (k_dflt (refine' sum_led ?hh ?F ?N ?m1 ?hi ?_; (case hh => with_unfolding_all rfl); (case F => k_asm); (case N => k_asm); (case m1 => k_mem); (case hi => assumption); k_whole)); intro t' h' tk' F' N'; (try simp only [List.sum_cons, List.sum_nil])))
local macro_rules | `(tactic| walk_at "exec Return some") => `(tactic| ((with_reducible show wpAny _ _ (exec (Stmt.Return (some (Expr.Constant _ _ _)) _) _) _ _ _); refine Stop.out ?_))
theorem stage_c (w : World) (mean : ExcName → Option Value) (mg mb : Str → Option Value) (fa : Addr) (cd : Value) (h₀ : Heap) (s : Shared) (Q : Flow → Shared → Prop) (E : Value → Shared → Prop) (m : Str → Option Value) (news : Ledger)
    (nm : Str) (args : Arguments) (body : List Stmt) (decs : List Expr) (ret : Option Expr) (tps : List TypeParam) (scope : Scope) (tscope : Option Scope) (bind : Str) (pos : Pos)
    (hlaw : Challenge.pw_bh0020_01.main.body.getLast? = some (Stmt.FunctionDef nm args body decs ret tps scope tscope bind pos))
    (B : Below callerA h₀ [] h₀) (X : (Mine.hd.heap_39 w.params).In h₀) (T : Top Mine.hd.view_39 (looseW Mine.hd.view_39 [Str.ofString "struct", Str.ofString "BytesIO"]) mean mg mb h₀)
    (P0 P1 P2 Pa : Int → Bool) (x0 d0 s0 : Addr) (so0 : Obj) (c0 : Int) (t01 t02 t03 : Tok) (hx0 : (x0, instObj 173 d0) ∈ news) (hd0 : (d0, bmDict w t01 t02 s0 c0 t03) ∈ news) (S0 : SetS true (ledOf w) so0 P0)
    (x1 d1 s1 : Addr) (so1 : Obj) (c1 : Int) (t11 t12 t13 : Tok) (hx1 : (x1, instObj 173 d1) ∈ news) (hd1 : (d1, bmDict w t11 t12 s1 c1 t13) ∈ news) (S1 : SetS true (ledOf w) so1 P1)
    (x2 d2 s2 : Addr) (so2 : Obj) (c2 : Int) (t21 t22 t23 : Tok) (hx2 : (x2, instObj 173 d2) ∈ news) (hd2 : (d2, bmDict w t21 t22 s2 c2 t23) ∈ news) (S2 : SetS true (ledOf w) so2 P2)
    (x3 d3 s3 : Addr) (so3 : Obj) (c3 : Int) (t31 t32 t33 : Tok) (hx3 : (x3, instObj 173 d3) ∈ news) (hd3 : (d3, bmDict w t31 t32 s3 c3 t33) ∈ news) (S3 : SetS false (ledOf w) so3 (fun j => (P0 j || P1 j) || P2 j))
    (x4 d4 s4 : Addr) (so4 : Obj) (c4 : Int) (t41 t42 t43 : Tok) (hx4 : (x4, instObj 173 d4) ∈ news) (hd4 : (d4, bmDict w t41 t42 s4 c4 t43) ∈ news) (S4 : SetS false (ledOf w) so4 (fun j => (P0 j ^^ P1 j) ^^ P2 j))
    (x5 d5 s5 : Addr) (so5 : Obj) (c5 : Int) (t51 t52 t53 : Tok) (hx5 : (x5, instObj 173 d5) ∈ news) (hd5 : (d5, bmDict w t51 t52 s5 c5 t53) ∈ news) (S5 : SetS false (ledOf w) so5 (fun j => ((Pa j && !P0 j) && !P1 j) && !P2 j))
    (x6 d6 s6 : Addr) (so6 : Obj) (c6 : Int) (t61 t62 t63 : Tok) (hx6 : (x6, instObj 173 d6) ∈ news) (hd6 : (d6, bmDict w t61 t62 s6 c6 t63) ∈ news) (S6 : SetS true (ledOf w) so6 Pa)
    (ne01 : @Ne Nat s0 s1) (ne02 : @Ne Nat s0 s2) (ne03 : @Ne Nat s0 s3) (ne04 : @Ne Nat s0 s4) (ne05 : @Ne Nat s0 s5) (ne06 : @Ne Nat s0 s6) (ne12 : @Ne Nat s1 s2) (ne13 : @Ne Nat s1 s3) (ne14 : @Ne Nat s1 s4) (ne15 : @Ne Nat s1 s5) (ne16 : @Ne Nat s1 s6) (ne23 : @Ne Nat s2 s3) (ne24 : @Ne Nat s2 s4) (ne25 : @Ne Nat s2 s5) (ne26 : @Ne Nat s2 s6) (ne34 : @Ne Nat s3 s4) (ne35 : @Ne Nat s3 s5) (ne36 : @Ne Nat s3 s6) (ne45 : @Ne Nat s4 s5) (ne46 : @Ne Nat s4 s6) (ne56 : @Ne Nat s5 s6)
    (limit : Int) (hl0 : 0 < limit) (hl1 : limit ≤ 150) (ol : Obj) (tl : Tok) (hol : (h₀.objs.size + 1 + 1, ol) ∈ news) (e2 : ol.data = Data.cell (some (.int limit tl)))
    (lm ls ld : Addr) (ys yd : List Value) (g0 g1 g2 g01 g02 g12 g012 : Int) (tt : Tok) (hls : (ls, LCg.lst ys) ∈ news) (hld : (ld, LCg.lst yd) ∈ news)
    (hys : IntsAre ys [g0, g1, g2]) (hyd : IntsAre yd [g01, g02, g12])
    
    (hm_maps : m (Str.ofString "maps") = some (.ref lm)) (hm_singles : m (Str.ofString "singles") = some (.ref ls)) (hm_doubles : m (Str.ofString "doubles") = some (.ref ld)) (hm_triple : m (Str.ofString "triple") = some (.int g012 tt)) (hm_first : m (Str.ofString "first") = some (.ref x0)) (hm_second : m (Str.ofString "second") = some (.ref x1)) (hm_third : m (Str.ofString "third") = some (.ref x2)) (hm_some : m (Str.ofString "some") = some (.ref x3)) (hm_odd : m (Str.ofString "odd") = some (.ref x4)) (hm_none : m (Str.ofString "none") = some (.ref x5)) (hm_all_places : m (Str.ofString "all_places") = some (.ref x6))
    (F : Fr h₀ h₀.objs.size s.heap m)
    (N : News h₀ h₀.objs.size s.heap ((s0, so0) :: (s1, so1) :: (s2, so2) :: (s3, so3) :: (s4, so4) :: (s5, so5) :: (s6, so6) :: news))
    (qs : (cnt (fun j => (P0 j || P1 j) || P2 j) : Int) = g0 + g1 + g2 - (g01 + g02 + g12) + g012) (qn : (cnt (fun j => ((Pa j && !P0 j) && !P1 j) && !P2 j) : Int) = limit - (cnt (fun j => (P0 j || P1 j) || P2 j) : Int))
    (hret : ∀ (h' : Heap) (tk' : Nat), Fr h₀ h₀.objs.size h' m → News h₀ h₀.objs.size h' ((s0, so0) :: (s1, so1) :: (s2, so2) :: (s3, so3) :: (s4, so4) :: (s5, so5) :: (s6, so6) :: news) → Q .next { s with heap := h', toks := tk' }) :
    wpAny (model Challenge.rw_bh0020_01.row.prog w) (callerA.deeper (envOfC nm scope h₀.objs.size fa cd)) (exec ((body.drop 14).headD (Stmt.Pass default)) (envOfC nm scope h₀.objs.size fa cd)) Q E s := by
  obtain ⟨u, e⟩ : ∃ u : Str → Option Value, m = (fun y => if y = Str.ofString "maps" then some (.ref lm) else if y = Str.ofString "singles" then some (.ref ls) else if y = Str.ofString "doubles" then some (.ref ld) else if y = Str.ofString "triple" then some (.int g012 tt) else if y = Str.ofString "first" then some (.ref x0) else if y = Str.ofString "second" then some (.ref x1) else if y = Str.ofString "third" then some (.ref x2) else if y = Str.ofString "some" then some (.ref x3) else if y = Str.ofString "odd" then some (.ref x4) else if y = Str.ofString "none" then some (.ref x5) else if y = Str.ofString "all_places" then some (.ref x6) else u y) := ⟨m, fr_cons hm_maps (fr_cons hm_singles (fr_cons hm_doubles (fr_cons hm_triple (fr_cons hm_first (fr_cons hm_second (fr_cons hm_third (fr_cons hm_some (fr_cons hm_odd (fr_cons hm_none (fr_cons hm_all_places (rfl)))))))))))⟩
  clear hm_maps hm_singles hm_doubles hm_triple hm_first hm_second hm_third hm_some hm_odd hm_none hm_all_places
  subst e
  w_top off
  k_with_none
  have hfill : Challenge.rw_bh0020_01 = Challenge.rw_bh0020_01 ∧ (Mine.hd.heap_39 w.params).In h₀ := ⟨rfl, X⟩
  revert hfill
  k_fill
  intro hfill
  clear hfill
  unfold Challenge.pw_bh0020_01 at hlaw
  simp only [List.getLast?_cons_cons, List.getLast?_singleton, Option.some.injEq] at hlaw
  injection hlaw with h1 h2 h3 h4 h5 h6 h7 h8 h9 h10
  subst h1 h3 h7
  clear h2 h4 h5 h6 h8 h9 h10 args decs ret tps tscope bind pos
  (try dsimp only [List.drop, List.headD])
  k_steps
  all_goals try omega
  exact hret _ _ (by assumption) (cb_drop (by assumption) (fun p hp => by repeat (first | exact hp | apply List.Mem.tail)))
end Mine
end
section
open PySem PySem.W PyProof.Rows
set_option maxRecDepth 100000
set_option maxHeartbeats 8000000
namespace Mine
local macro_rules | `(tactic| walk_at "pad 0") => `(tactic| skip)
local macro_rules | `(tactic| walk_at "pad 1") => `(tactic| skip)
local macro_rules | `(tactic| walk_at "pad 2") => `(tactic| skip)
local macro_rules | `(tactic| walk_at "pad 3") => `(tactic| skip)
local macro_rules | `(tactic| walk_at "pad 4") => `(tactic| skip)
local macro_rules | `(tactic| walk_at "pad 5") => `(tactic| skip)
local macro_rules | `(tactic| walk_at "pad 6") => `(tactic| skip)
local macro_rules | `(tactic| walk_at "pad 7") => `(tactic| skip)
local macro_rules | `(tactic| walk_at "pad 8") => `(tactic| skip)
local macro_rules | `(tactic| walk_at "pad 9") => `(tactic| skip)
local macro_rules | `(tactic| walk_at "pad 10") => `(tactic| skip)
local macro_rules | `(tactic| walk_at "pad 11") => `(tactic| skip)
local macro_rules | `(tactic| walk_at "pad 12") => `(tactic| skip)
local macro_rules | `(tactic| walk_at "pad 13") => `(tactic| skip)
local macro_rules | `(tactic| walk_at "pad 14") => `(tactic| skip)
local macro_rules | `(tactic| walk_at "pad 15") => `(tactic| skip)
local macro_rules | `(tactic| walk_at "pad 16") => `(tactic| skip)
local macro_rules | `(tactic| walk_at "pad 17") => `(tactic| skip)
local macro_rules | `(tactic| walk_at "pad 18") => `(tactic| skip)
local macro_rules | `(tactic| walk_at "pad 19") => `(tactic| skip)
local macro_rules | `(tactic| walk_at "pad 20") => `(tactic| skip)
local macro_rules | `(tactic| walk_at "pad 21") => `(tactic| skip)
local macro_rules | `(tactic| walk_at "pad 22") => `(tactic| skip)
local macro_rules | `(tactic| walk_at "pad 23") => `(tactic| skip)
local macro_rules | `(tactic| walk_at "pad 24") => `(tactic| skip)
local macro_rules | `(tactic| walk_at "pad 25") => `(tactic| skip)
local macro_rules | `(tactic| walk_at "call ref") => `(tactic| (k_here; (with_reducible show wpAny _ _ (call (Value.ref 184) _ _) _ _ _); (k_dflt (refine' bm_at _ _ _ _ _ _ _ _ _ _ _ _ _ _ _ _ _ _ _ _ _ _ ?kB ?kF ?kX ?kN ?kT ?kk ?kd ?ku _ _ _ ?kl ?ki ?kln _ _ _ _ ?k0 ?k1 ?_; (case kB => k_asm); (case kF => k_asm); (case kX => k_asm); (case kN => k_asm); (case kT => k_asm); (case kk => first | exact rfl | assumption); (case kd => ktr_room); (case ku => ktr_units); (case kl => k_asm); (case ki => k_asm); (case kln => omega); (case k0 => omega); (case k1 => omega); k_whole)); intro t' h' tk' F' N'))
local macro_rules | `(tactic| walk_at "call ref") => `(tactic| (k_here; (with_reducible show wpAny _ _ (call (Value.ref 173) _ _) _ _ _); (k_dflt (refine' bm_new _ _ _ _ _ _ _ _ _ _ _ _ _ _ _ _ _ _ _ _ _ _ ?kB ?kF ?kX ?kN ?kT ?kk ?kd ?ku  ?_; (case kB => k_asm); (case kF => k_asm); (case kX => k_asm); (case kN => k_asm); (case kT => k_asm); (case kk => first | exact rfl | assumption); (case kd => ktr_room); (case ku => ktr_units);  k_whole)); intro x' d' a' o' t1' t2' t3' h' tk' F' N' l1 l2 l3 hs'; (try simp only [AllLt, and_true] at l1); (try dsimp only [bmDict] at N')))
local macro_rules | `(tactic| walk_at "call ref") => `(tactic| (k_here; (with_reducible show wpAny _ _ (call (Value.ref 191) _ _) _ _ _); (k_dflt (refine' bm_multiple _ _ _ _ _ _ _ _ _ _ _ _ _ _ _ _ _ _ _ _ _ _ ?kB ?kF ?kX ?kN ?kT ?kk ?kd ?ku _ _ _ ?kl ?ki _ _ _ _ ?k0 ?k1 ?k2 ?k3 ?_; (case kB => k_asm); (case kF => k_asm); (case kX => k_asm); (case kN => k_asm); (case kT => k_asm); (case kk => first | exact rfl | assumption); (case kd => ktr_room); (case ku => ktr_units); (case kl => k_asm); (case ki => k_asm); (case k0 => omega); (case k1 => omega); (case k2 => omega); (case k3 => omega); k_whole)); intro t' h' tk' F' N'))
local macro_rules | `(tactic| walk_at "binaryOp BitOr") => `(tactic| (k_here; (with_reducible show wpAny _ _ (binaryOp Operator.BitOr (Value.ref _) (Value.ref _)) _ _ _); (k_dflt (refine' bm_or _ _ _ _ _ _ _ _ _ _ _ _ _ _ _ _ _ _ _ _ _ _ ?kB ?kF ?kX ?kN ?kT ?kk ?kd ?ku _ _ _ _ _ _ _ _ _ _ _ _ _ _ _ _ _ _ _ _ ?m1 ?m2 ?m3 ?m4 ?m5 ?m6 ?s1 ?s2 ?ne ?_; (case kB => k_asm); (case kF => k_asm); (case kX => k_asm); (case kN => k_asm); (case kT => k_asm); (case kk => first | exact rfl | assumption); (case kd => ktr_room); (case ku => ktr_units); (case m1 => k_mem); (case m2 => k_mem); (case m3 => k_mem); (case m4 => k_mem); (case m5 => k_mem); (case m6 => k_mem); (case s1 => assumption); (case s2 => assumption); (case ne => ((show @Ne Nat _ _); omega)); k_whole)); intro x' d' a' o' c' t1' t2' t3' h' tk' F' N' l1 l2 l3 hs'; (try simp only [AllLt, and_true] at l1); (try dsimp only [bmDict] at N')))
local macro_rules | `(tactic| walk_at "binaryOp BitAnd") => `(tactic| (k_here; (with_reducible show wpAny _ _ (binaryOp Operator.BitAnd (Value.ref _) (Value.ref _)) _ _ _); (k_dflt (refine' bm_and _ _ _ _ _ _ _ _ _ _ _ _ _ _ _ _ _ _ _ _ _ _ ?kB ?kF ?kX ?kN ?kT ?kk ?kd ?ku _ _ _ _ _ _ _ _ _ _ _ _ _ _ _ _ _ _ _ _ ?m1 ?m2 ?m3 ?m4 ?m5 ?m6 ?s1 ?s2 ?ne ?_; (case kB => k_asm); (case kF => k_asm); (case kX => k_asm); (case kN => k_asm); (case kT => k_asm); (case kk => first | exact rfl | assumption); (case kd => ktr_room); (case ku => ktr_units); (case m1 => k_mem); (case m2 => k_mem); (case m3 => k_mem); (case m4 => k_mem); (case m5 => k_mem); (case m6 => k_mem); (case s1 => assumption); (case s2 => assumption); (case ne => ((show @Ne Nat _ _); omega)); k_whole)); intro x' d' a' o' c' t1' t2' t3' h' tk' F' N' l1 l2 l3 hs'; (try simp only [AllLt, and_true] at l1); (try dsimp only [bmDict] at N')))
local macro_rules | `(tactic| walk_at "binaryOp BitXor") => `(tactic| (k_here; (with_reducible show wpAny _ _ (binaryOp Operator.BitXor (Value.ref _) (Value.ref _)) _ _ _); (k_dflt (refine' bm_xor _ _ _ _ _ _ _ _ _ _ _ _ _ _ _ _ _ _ _ _ _ _ ?kB ?kF ?kX ?kN ?kT ?kk ?kd ?ku _ _ _ _ _ _ _ _ _ _ _ _ _ _ _ _ _ _ _ _ ?m1 ?m2 ?m3 ?m4 ?m5 ?m6 ?s1 ?s2 ?_; (case kB => k_asm); (case kF => k_asm); (case kX => k_asm); (case kN => k_asm); (case kT => k_asm); (case kk => first | exact rfl | assumption); (case kd => ktr_room); (case ku => ktr_units); (case m1 => k_mem); (case m2 => k_mem); (case m3 => k_mem); (case m4 => k_mem); (case m5 => k_mem); (case m6 => k_mem); (case s1 => assumption); (case s2 => assumption); k_whole)); intro x' d' a' o' c' t1' t2' t3' h' tk' F' N' l1 l2 l3 hs'; (try simp only [AllLt, and_true] at l1); (try dsimp only [bmDict] at N')))
local macro_rules | `(tactic| walk_at "binaryOp Sub") => `(tactic| (k_here; (with_reducible show wpAny _ _ (binaryOp Operator.Sub (Value.ref _) (Value.ref _)) _ _ _); (k_dflt (refine' bm_sub _ _ _ _ _ _ _ _ _ _ _ _ _ _ _ _ _ _ _ _ _ _ ?kB ?kF ?kX ?kN ?kT ?kk ?kd ?ku _ _ _ _ _ _ _ _ _ _ _ _ _ _ _ _ _ _ _ _ ?m1 ?m2 ?m3 ?m4 ?m5 ?m6 ?s1 ?s2 ?_; (case kB => k_asm); (case kF => k_asm); (case kX => k_asm); (case kN => k_asm); (case kT => k_asm); (case kk => first | exact rfl | assumption); (case kd => ktr_room); (case ku => ktr_units); (case m1 => k_mem); (case m2 => k_mem); (case m3 => k_mem); (case m4 => k_mem); (case m5 => k_mem); (case m6 => k_mem); (case s1 => assumption); (case s2 => assumption); k_whole)); intro x' d' a' o' c' t1' t2' t3' h' tk' F' N' l1 l2 l3 hs'; (try simp only [AllLt, and_true] at l1); (try dsimp only [bmDict] at N')))
local macro_rules | `(tactic| walk_at "call builtin:len") => `(tactic| (k_here; (with_reducible show wpAny _ _ (call (Value.builtin "len") [Value.ref _] _) _ _ _); (k_dflt (refine' bm_len _ _ _ _ _ _ _ _ _ _ _ _ _ _ _ _ _ _ _ _ _ _ ?kB ?kF ?kX ?kN ?kT ?kk ?kd ?ku _ _ _ _ _ _ _ _ _ _ ?m1 ?m2 ?m3 ?s1 ?_; (case kB => k_asm); (case kF => k_asm); (case kX => k_asm); (case kN => k_asm); (case kT => k_asm); (case kk => first | exact rfl | assumption); (case kd => ktr_room); (case ku => ktr_units); (case m1 => k_mem); (case m2 => k_mem); (case m3 => k_mem); (case s1 => assumption); k_whole)); intro t' h' tk' F' N'))
local macro_rules | `(tactic| walk_at "call ref") => `(tactic| (k_here; (with_reducible show wpAny _ _ (call (Value.ref 196) _ _) _ _ _); (k_dflt (refine' bm_same _ _ _ _ _ _ _ _ _ _ _ _ _ _ _ _ _ _ _ _ _ _ ?kB ?kF ?kX ?kN ?kT ?kk ?kd ?ku _ _ _ _ _ _ _ _ _ _ _ _ _ _ _ _ _ _ _ _ _ _ ?m1 ?m2 ?m3 ?m4 ?m5 ?m6 ?s1 ?s2 ?l0 ?l1 ?eq ?_; (case kB => k_asm); (case kF => k_asm); (case kX => k_asm); (case kN => k_asm); (case kT => k_asm); (case kk => first | exact rfl | assumption); (case kd => ktr_room); (case ku => ktr_units); (case m1 => k_mem); (case m2 => k_mem); (case m3 => k_mem); (case m4 => k_mem); (case m5 => k_mem); (case m6 => k_mem); (case s1 => assumption); (case s2 => assumption); (case l0 => omega); (case l1 => omega); (case eq => walk_at "same_eq"); k_whole)); intro h' tk' F' N'))
local macro_rules | `(tactic| k_mem) => `(tactic| ((fail_if_success (refine' List.Mem.tail _ ?_)); assumption))
local macro_rules | `(tactic| walk_at "call builtin:sum") => `(tactic| (k_here; (with_reducible show wpAny _ _ (call (Value.builtin "sum") [Value.ref _]) _ _ _); (k_dflt (refine' sum_led ?hh ?F ?N ?m1 ?hi ?_; (case hh => with_unfolding_all rfl); (case F => k_asm); (case N => k_asm); (case m1 => k_mem); (case hi => assumption); k_whole)); intro t' h' tk' F' N'; (try simp only [List.sum_cons, List.sum_nil])))
local macro_rules | `(tactic| walk_at "exec Return some") => `(tactic| ((with_reducible show wpAny _ _ (exec (Stmt.Return (some (Expr.Constant _ _ _)) _) _) _ _ _); refine Stop.out ?_))
theorem stage_c2 (w : World) (mean : ExcName → Option Value) (mg mb : Str → Option Value) (fa : Addr) (cd : Value) (h₀ : Heap) (s : Shared) (Q : Flow → Shared → Prop) (E : Value → Shared → Prop) (m : Str → Option Value) (news : Ledger)
    (nm : Str) (args : Arguments) (body : List Stmt) (decs : List Expr) (ret : Option Expr) (tps : List TypeParam) (scope : Scope) (tscope : Option Scope) (bind : Str) (pos : Pos)
    (hlaw : Challenge.pw_bh0020_01.main.body.getLast? = some (Stmt.FunctionDef nm args body decs ret tps scope tscope bind pos))
    (B : Below callerA h₀ [] h₀) (X : (Mine.hd.heap_39 w.params).In h₀) (T : Top Mine.hd.view_39 (looseW Mine.hd.view_39 [Str.ofString "struct", Str.ofString "BytesIO"]) mean mg mb h₀)
    (P0 P1 P2 Pa : Int → Bool) (x0 d0 s0 : Addr) (so0 : Obj) (c0 : Int) (t01 t02 t03 : Tok) (hx0 : (x0, instObj 173 d0) ∈ news) (hd0 : (d0, bmDict w t01 t02 s0 c0 t03) ∈ news) (S0 : SetS true (ledOf w) so0 P0)
    (x1 d1 s1 : Addr) (so1 : Obj) (c1 : Int) (t11 t12 t13 : Tok) (hx1 : (x1, instObj 173 d1) ∈ news) (hd1 : (d1, bmDict w t11 t12 s1 c1 t13) ∈ news) (S1 : SetS true (ledOf w) so1 P1)
    (x2 d2 s2 : Addr) (so2 : Obj) (c2 : Int) (t21 t22 t23 : Tok) (hx2 : (x2, instObj 173 d2) ∈ news) (hd2 : (d2, bmDict w t21 t22 s2 c2 t23) ∈ news) (S2 : SetS true (ledOf w) so2 P2)
    (x3 d3 s3 : Addr) (so3 : Obj) (c3 : Int) (t31 t32 t33 : Tok) (hx3 : (x3, instObj 173 d3) ∈ news) (hd3 : (d3, bmDict w t31 t32 s3 c3 t33) ∈ news) (S3 : SetS false (ledOf w) so3 (fun j => (P0 j || P1 j) || P2 j))
    (x4 d4 s4 : Addr) (so4 : Obj) (c4 : Int) (t41 t42 t43 : Tok) (hx4 : (x4, instObj 173 d4) ∈ news) (hd4 : (d4, bmDict w t41 t42 s4 c4 t43) ∈ news) (S4 : SetS false (ledOf w) so4 (fun j => (P0 j ^^ P1 j) ^^ P2 j))
    (x5 d5 s5 : Addr) (so5 : Obj) (c5 : Int) (t51 t52 t53 : Tok) (hx5 : (x5, instObj 173 d5) ∈ news) (hd5 : (d5, bmDict w t51 t52 s5 c5 t53) ∈ news) (S5 : SetS false (ledOf w) so5 (fun j => ((Pa j && !P0 j) && !P1 j) && !P2 j))
    (x6 d6 s6 : Addr) (so6 : Obj) (c6 : Int) (t61 t62 t63 : Tok) (hx6 : (x6, instObj 173 d6) ∈ news) (hd6 : (d6, bmDict w t61 t62 s6 c6 t63) ∈ news) (S6 : SetS true (ledOf w) so6 Pa)
    (ne01 : @Ne Nat s0 s1) (ne02 : @Ne Nat s0 s2) (ne03 : @Ne Nat s0 s3) (ne04 : @Ne Nat s0 s4) (ne05 : @Ne Nat s0 s5) (ne06 : @Ne Nat s0 s6) (ne12 : @Ne Nat s1 s2) (ne13 : @Ne Nat s1 s3) (ne14 : @Ne Nat s1 s4) (ne15 : @Ne Nat s1 s5) (ne16 : @Ne Nat s1 s6) (ne23 : @Ne Nat s2 s3) (ne24 : @Ne Nat s2 s4) (ne25 : @Ne Nat s2 s5) (ne26 : @Ne Nat s2 s6) (ne34 : @Ne Nat s3 s4) (ne35 : @Ne Nat s3 s5) (ne36 : @Ne Nat s3 s6) (ne45 : @Ne Nat s4 s5) (ne46 : @Ne Nat s4 s6) (ne56 : @Ne Nat s5 s6)
    (limit : Int) (hl0 : 0 < limit) (hl1 : limit ≤ 150) (ol : Obj) (tl : Tok) (hol : (h₀.objs.size + 1 + 1, ol) ∈ news) (e2 : ol.data = Data.cell (some (.int limit tl)))
    (lm ls ld : Addr) (ys yd : List Value) (g0 g1 g2 g01 g02 g12 g012 : Int) (tt : Tok) (hls : (ls, LCg.lst ys) ∈ news) (hld : (ld, LCg.lst yd) ∈ news)
    (hys : IntsAre ys [g0, g1, g2]) (hyd : IntsAre yd [g01, g02, g12])
    
    (hm_maps : m (Str.ofString "maps") = some (.ref lm)) (hm_singles : m (Str.ofString "singles") = some (.ref ls)) (hm_doubles : m (Str.ofString "doubles") = some (.ref ld)) (hm_triple : m (Str.ofString "triple") = some (.int g012 tt)) (hm_first : m (Str.ofString "first") = some (.ref x0)) (hm_second : m (Str.ofString "second") = some (.ref x1)) (hm_third : m (Str.ofString "third") = some (.ref x2)) (hm_some : m (Str.ofString "some") = some (.ref x3)) (hm_odd : m (Str.ofString "odd") = some (.ref x4)) (hm_none : m (Str.ofString "none") = some (.ref x5)) (hm_all_places : m (Str.ofString "all_places") = some (.ref x6))
    (F : Fr h₀ h₀.objs.size s.heap m)
    (N : News h₀ h₀.objs.size s.heap ((s0, so0) :: (s1, so1) :: (s2, so2) :: (s3, so3) :: (s4, so4) :: (s5, so5) :: (s6, so6) :: news))
    (qo : (cnt (fun j => (P0 j ^^ P1 j) ^^ P2 j) : Int) = g0 + g1 + g2 - 2 * (g01 + g02 + g12) + 4 * g012)
    (hret : ∀ (h' : Heap) (tk' : Nat), Fr h₀ h₀.objs.size h' m → News h₀ h₀.objs.size h' ((s0, so0) :: (s1, so1) :: (s2, so2) :: (s3, so3) :: (s4, so4) :: (s5, so5) :: (s6, so6) :: news) → Q .next { s with heap := h', toks := tk' }) :
    wpAny (model Challenge.rw_bh0020_01.row.prog w) (callerA.deeper (envOfC nm scope h₀.objs.size fa cd)) (exec ((body.drop 15).headD (Stmt.Pass default)) (envOfC nm scope h₀.objs.size fa cd)) Q E s := by
  obtain ⟨u, e⟩ : ∃ u : Str → Option Value, m = (fun y => if y = Str.ofString "maps" then some (.ref lm) else if y = Str.ofString "singles" then some (.ref ls) else if y = Str.ofString "doubles" then some (.ref ld) else if y = Str.ofString "triple" then some (.int g012 tt) else if y = Str.ofString "first" then some (.ref x0) else if y = Str.ofString "second" then some (.ref x1) else if y = Str.ofString "third" then some (.ref x2) else if y = Str.ofString "some" then some (.ref x3) else if y = Str.ofString "odd" then some (.ref x4) else if y = Str.ofString "none" then some (.ref x5) else if y = Str.ofString "all_places" then some (.ref x6) else u y) := ⟨m, fr_cons hm_maps (fr_cons hm_singles (fr_cons hm_doubles (fr_cons hm_triple (fr_cons hm_first (fr_cons hm_second (fr_cons hm_third (fr_cons hm_some (fr_cons hm_odd (fr_cons hm_none (fr_cons hm_all_places (rfl)))))))))))⟩
  clear hm_maps hm_singles hm_doubles hm_triple hm_first hm_second hm_third hm_some hm_odd hm_none hm_all_places
  subst e
  w_top off
  k_with_none
  have hfill : Challenge.rw_bh0020_01 = Challenge.rw_bh0020_01 ∧ (Mine.hd.heap_39 w.params).In h₀ := ⟨rfl, X⟩
  revert hfill
  k_fill
  intro hfill
  clear hfill
  unfold Challenge.pw_bh0020_01 at hlaw
  simp only [List.getLast?_cons_cons, List.getLast?_singleton, Option.some.injEq] at hlaw
  injection hlaw with h1 h2 h3 h4 h5 h6 h7 h8 h9 h10
  subst h1 h3 h7
  clear h2 h4 h5 h6 h8 h9 h10 args decs ret tps tscope bind pos
  (try dsimp only [List.drop, List.headD])
  k_steps
  all_goals try omega
  exact hret _ _ (by assumption) (cb_drop (by assumption) (fun p hp => by repeat (first | exact hp | apply List.Mem.tail)))
end Mine
end
section
open PySem PySem.W PyProof.Rows
set_option maxRecDepth 100000
set_option maxHeartbeats 8000000
namespace Mine
local macro_rules | `(tactic| walk_at "pad 0") => `(tactic| skip)
local macro_rules | `(tactic| walk_at "pad 1") => `(tactic| skip)
local macro_rules | `(tactic| walk_at "pad 2") => `(tactic| skip)
local macro_rules | `(tactic| walk_at "pad 3") => `(tactic| skip)
local macro_rules | `(tactic| walk_at "pad 4") => `(tactic| skip)
local macro_rules | `(tactic| walk_at "pad 5") => `(tactic| skip)
local macro_rules | `(tactic| walk_at "pad 6") => `(tactic| skip)
local macro_rules | `(tactic| walk_at "pad 7") => `(tactic| skip)
local macro_rules | `(tactic| walk_at "pad 8") => `(tactic| skip)
local macro_rules | `(tactic| walk_at "pad 9") => `(tactic| skip)
local macro_rules | `(tactic| walk_at "pad 10") => `(tactic| skip)
local macro_rules | `(tactic| walk_at "pad 11") => `(tactic| skip)
local macro_rules | `(tactic| walk_at "pad 12") => `(tactic| skip)
local macro_rules | `(tactic| walk_at "pad 13") => `(tactic| skip)
local macro_rules | `(tactic| walk_at "pad 14") => `(tactic| skip)
local macro_rules | `(tactic| walk_at "pad 15") => `(tactic| skip)
local macro_rules | `(tactic| walk_at "pad 16") => `(tactic| skip)
local macro_rules | `(tactic| walk_at "pad 17") => `(tactic| skip)
local macro_rules | `(tactic| walk_at "pad 18") => `(tactic| skip)
local macro_rules | `(tactic| walk_at "pad 19") => `(tactic| skip)
local macro_rules | `(tactic| walk_at "pad 20") => `(tactic| skip)
local macro_rules | `(tactic| walk_at "pad 21") => `(tactic| skip)
local macro_rules | `(tactic| walk_at "pad 22") => `(tactic| skip)
local macro_rules | `(tactic| walk_at "pad 23") => `(tactic| skip)
local macro_rules | `(tactic| walk_at "pad 24") => `(tactic| skip)
local macro_rules | `(tactic| walk_at "pad 25") => `(tactic| skip)
local macro_rules | `(tactic| walk_at "pad 26") => `(tactic| skip)
local macro_rules | `(tactic| walk_at "call ref") => `(tactic| (k_here; (with_reducible show wpAny _ _ (call (Value.ref 184) _ _) _ _ _); (k_dflt (refine' bm_at _ _ _ _ _ _ _ _ _ _ _ _ _ _ _ _ _ _ _ _ _ _ ?kB ?kF ?kX ?kN ?kT ?kk ?kd ?ku _ _ _ ?kl ?ki ?kln _ _ _ _ ?k0 ?k1 ?_; (case kB => k_asm); (case kF => k_asm); (case kX => k_asm); (case kN => k_asm); (case kT => k_asm); (case kk => first | exact rfl | assumption); (case kd => ktr_room); (case ku => ktr_units); (case kl => k_asm); (case ki => k_asm); (case kln => omega); (case k0 => omega); (case k1 => omega); k_whole)); intro t' h' tk' F' N'))
local macro_rules | `(tactic| walk_at "call ref") => `(tactic| (k_here; (with_reducible show wpAny _ _ (call (Value.ref 173) _ _) _ _ _); (k_dflt (refine' bm_new _ _ _ _ _ _ _ _ _ _ _ _ _ _ _ _ _ _ _ _ _ _ ?kB ?kF ?kX ?kN ?kT ?kk ?kd ?ku  ?_; (case kB => k_asm); (case kF => k_asm); (case kX => k_asm); (case kN => k_asm); (case kT => k_asm); (case kk => first | exact rfl | assumption); (case kd => ktr_room); (case ku => ktr_units);  k_whole)); intro x' d' a' o' t1' t2' t3' h' tk' F' N' l1 l2 l3 hs'; (try simp only [AllLt, and_true] at l1); (try dsimp only [bmDict] at N')))
local macro_rules | `(tactic| walk_at "call ref") => `(tactic| (k_here; (with_reducible show wpAny _ _ (call (Value.ref 191) _ _) _ _ _); (k_dflt (refine' bm_multiple _ _ _ _ _ _ _ _ _ _ _ _ _ _ _ _ _ _ _ _ _ _ ?kB ?kF ?kX ?kN ?kT ?kk ?kd ?ku _ _ _ ?kl ?ki _ _ _ _ ?k0 ?k1 ?k2 ?k3 ?_; (case kB => k_asm); (case kF => k_asm); (case kX => k_asm); (case kN => k_asm); (case kT => k_asm); (case kk => first | exact rfl | assumption); (case kd => ktr_room); (case ku => ktr_units); (case kl => k_asm); (case ki => k_asm); (case k0 => omega); (case k1 => omega); (case k2 => omega); (case k3 => omega); k_whole)); intro t' h' tk' F' N'))
local macro_rules | `(tactic| walk_at "binaryOp BitOr") => `(tactic| (k_here; (with_reducible show wpAny _ _ (binaryOp Operator.BitOr (Value.ref _) (Value.ref _)) _ _ _); (k_dflt (refine' bm_or _ _ _ _ _ _ _ _ _ _ _ _ _ _ _ _ _ _ _ _ _ _ ?kB ?kF ?kX ?kN ?kT ?kk ?kd ?ku _ _ _ _ _ _ _ _ _ _ _ _ _ _ _ _ _ _ _ _ ?m1 ?m2 ?m3 ?m4 ?m5 ?m6 ?s1 ?s2 ?ne ?_; (case kB => k_asm); (case kF => k_asm); (case kX => k_asm); (case kN => k_asm); (case kT => k_asm); (case kk => first | exact rfl | assumption); (case kd => ktr_room); (case ku => ktr_units); (case m1 => k_mem); (case m2 => k_mem); (case m3 => k_mem); (case m4 => k_mem); (case m5 => k_mem); (case m6 => k_mem); (case s1 => assumption); (case s2 => assumption); (case ne => ((show @Ne Nat _ _); omega)); k_whole)); intro x' d' a' o' c' t1' t2' t3' h' tk' F' N' l1 l2 l3 hs'; (try simp only [AllLt, and_true] at l1); (try dsimp only [bmDict] at N')))
local macro_rules | `(tactic| walk_at "binaryOp BitAnd") => `(tactic| (k_here; (with_reducible show wpAny _ _ (binaryOp Operator.BitAnd (Value.ref _) (Value.ref _)) _ _ _); (k_dflt (refine' bm_and _ _ _ _ _ _ _ _ _ _ _ _ _ _ _ _ _ _ _ _ _ _ ?kB ?kF ?kX ?kN ?kT ?kk ?kd ?ku _ _ _ _ _ _ _ _ _ _ _ _ _ _ _ _ _ _ _ _ ?m1 ?m2 ?m3 ?m4 ?m5 ?m6 ?s1 ?s2 ?ne ?_; (case kB => k_asm); (case kF => k_asm); (case kX => k_asm); (case kN => k_asm); (case kT => k_asm); (case kk => first | exact rfl | assumption); (case kd => ktr_room); (case ku => ktr_units); (case m1 => k_mem); (case m2 => k_mem); (case m3 => k_mem); (case m4 => k_mem); (case m5 => k_mem); (case m6 => k_mem); (case s1 => assumption); (case s2 => assumption); (case ne => ((show @Ne Nat _ _); omega)); k_whole)); intro x' d' a' o' c' t1' t2' t3' h' tk' F' N' l1 l2 l3 hs'; (try simp only [AllLt, and_true] at l1); (try dsimp only [bmDict] at N')))
local macro_rules | `(tactic| walk_at "binaryOp BitXor") => `(tactic| (k_here; (with_reducible show wpAny _ _ (binaryOp Operator.BitXor (Value.ref _) (Value.ref _)) _ _ _); (k_dflt (refine' bm_xor _ _ _ _ _ _ _ _ _ _ _ _ _ _ _ _ _ _ _ _ _ _ ?kB ?kF ?kX ?kN ?kT ?kk ?kd ?ku _ _ _ _ _ _ _ _ _ _ _ _ _ _ _ _ _ _ _ _ ?m1 ?m2 ?m3 ?m4 ?m5 ?m6 ?s1 ?s2 ?_; (case kB => k_asm); (case kF => k_asm); (case kX => k_asm); (case kN => k_asm); (case kT => k_asm); (case kk => first | exact rfl | assumption); (case kd => ktr_room); (case ku => ktr_units); (case m1 => k_mem); (case m2 => k_mem); (case m3 => k_mem); (case m4 => k_mem); (case m5 => k_mem); (case m6 => k_mem); (case s1 => assumption); (case s2 => assumption); k_whole)); intro x' d' a' o' c' t1' t2' t3' h' tk' F' N' l1 l2 l3 hs'; (try simp only [AllLt, and_true] at l1); (try dsimp only [bmDict] at N')))
local macro_rules | `(tactic| walk_at "binaryOp Sub") => `(tactic| (k_here; (with_reducible show wpAny _ _ (binaryOp Operator.Sub (Value.ref _) (Value.ref _)) _ _ _); (k_dflt (refine' bm_sub _ _ _ _ _ _ _ _ _ _ _ _ _ _ _ _ _ _ _ _ _ _ ?kB ?kF ?kX ?kN ?kT ?kk ?kd ?ku _ _ _ _ _ _ _ _ _ _ _ _ _ _ _ _ _ _ _ _ ?m1 ?m2 ?m3 ?m4 ?m5 ?m6 ?s1 ?s2 ?_; (case kB => k_asm); (case kF => k_asm); (case kX => k_asm); (case kN => k_asm); (case kT => k_asm); (case kk => first | exact rfl | assumption); (case kd => ktr_room); (case ku => ktr_units); (case m1 => k_mem); (case m2 => k_mem); (case m3 => k_mem); (case m4 => k_mem); (case m5 => k_mem); (case m6 => k_mem); (case s1 => assumption); (case s2 => assumption); k_whole)); intro x' d' a' o' c' t1' t2' t3' h' tk' F' N' l1 l2 l3 hs'; (try simp only [AllLt, and_true] at l1); (try dsimp only [bmDict] at N')))
local macro_rules | `(tactic| walk_at "call builtin:len") => `(tactic| (k_here; (with_reducible show wpAny _ _ (call (Value.builtin "len") [Value.ref _] _) _ _ _); (k_dflt (refine' bm_len _ _ _ _ _ _ _ _ _ _ _ _ _ _ _ _ _ _ _ _ _ _ ?kB ?kF ?kX ?kN ?kT ?kk ?kd ?ku _ _ _ _ _ _ _ _ _ _ ?m1 ?m2 ?m3 ?s1 ?_; (case kB => k_asm); (case kF => k_asm); (case kX => k_asm); (case kN => k_asm); (case kT => k_asm); (case kk => first | exact rfl | assumption); (case kd => ktr_room); (case ku => ktr_units); (case m1 => k_mem); (case m2 => k_mem); (case m3 => k_mem); (case s1 => assumption); k_whole)); intro t' h' tk' F' N'))
local macro_rules | `(tactic| walk_at "call ref") => `(tactic| (k_here; (with_reducible show wpAny _ _ (call (Value.ref 196) _ _) _ _ _); (k_dflt (refine' bm_same _ _ _ _ _ _ _ _ _ _ _ _ _ _ _ _ _ _ _ _ _ _ ?kB ?kF ?kX ?kN ?kT ?kk ?kd ?ku _ _ _ _ _ _ _ _ _ _ _ _ _ _ _ _ _ _ _ _ _ _ ?m1 ?m2 ?m3 ?m4 ?m5 ?m6 ?s1 ?s2 ?l0 ?l1 ?eq ?_; (case kB => k_asm); (case kF => k_asm); (case kX => k_asm); (case kN => k_asm); (case kT => k_asm); (case kk => first | exact rfl | assumption); (case kd => ktr_room); (case ku => ktr_units); (case m1 => k_mem); (case m2 => k_mem); (case m3 => k_mem); (case m4 => k_mem); (case m5 => k_mem); (case m6 => k_mem); (case s1 => assumption); (case s2 => assumption); (case l0 => omega); (case l1 => omega); (case eq => walk_at "same_eq"); k_whole)); intro h' tk' F' N'))
local macro_rules | `(tactic| k_mem) => `(tactic| ((fail_if_success (refine' List.Mem.tail _ ?_)); assumption))
local macro_rules | `(tactic| walk_at "same_eq") => `(tactic| (intro k; (first | exact same1 _ _ _ | exact same2 _ _ _ | exact same3 _ _ _ _ | exact same5 _ _ _ | (refine same4' ?_ k; assumption))))
local macro_rules | `(tactic| walk_at "exec Return some") => `(tactic| ((with_reducible show wpAny _ _ (exec (Stmt.Return (some (Expr.Constant _ _ _)) _) _) _ _ _); refine Stop.out ?_))
theorem stage_d (w : World) (mean : ExcName → Option Value) (mg mb : Str → Option Value) (fa : Addr) (cd : Value) (h₀ : Heap) (s : Shared) (Q : Flow → Shared → Prop) (E : Value → Shared → Prop) (m : Str → Option Value) (news : Ledger)
    (nm : Str) (args : Arguments) (body : List Stmt) (decs : List Expr) (ret : Option Expr) (tps : List TypeParam) (scope : Scope) (tscope : Option Scope) (bind : Str) (pos : Pos)
    (hlaw : Challenge.pw_bh0020_01.main.body.getLast? = some (Stmt.FunctionDef nm args body decs ret tps scope tscope bind pos))
    (B : Below callerA h₀ [] h₀) (X : (Mine.hd.heap_39 w.params).In h₀) (T : Top Mine.hd.view_39 (looseW Mine.hd.view_39 [Str.ofString "struct", Str.ofString "BytesIO"]) mean mg mb h₀)
    (P0 P1 P2 Pa : Int → Bool) (x0 d0 s0 : Addr) (so0 : Obj) (c0 : Int) (t01 t02 t03 : Tok) (hx0 : (x0, instObj 173 d0) ∈ news) (hd0 : (d0, bmDict w t01 t02 s0 c0 t03) ∈ news) (S0 : SetS true (ledOf w) so0 P0)
    (x1 d1 s1 : Addr) (so1 : Obj) (c1 : Int) (t11 t12 t13 : Tok) (hx1 : (x1, instObj 173 d1) ∈ news) (hd1 : (d1, bmDict w t11 t12 s1 c1 t13) ∈ news) (S1 : SetS true (ledOf w) so1 P1)
    (x2 d2 s2 : Addr) (so2 : Obj) (c2 : Int) (t21 t22 t23 : Tok) (hx2 : (x2, instObj 173 d2) ∈ news) (hd2 : (d2, bmDict w t21 t22 s2 c2 t23) ∈ news) (S2 : SetS true (ledOf w) so2 P2)
    (x3 d3 s3 : Addr) (so3 : Obj) (c3 : Int) (t31 t32 t33 : Tok) (hx3 : (x3, instObj 173 d3) ∈ news) (hd3 : (d3, bmDict w t31 t32 s3 c3 t33) ∈ news) (S3 : SetS false (ledOf w) so3 (fun j => (P0 j || P1 j) || P2 j))
    (x4 d4 s4 : Addr) (so4 : Obj) (c4 : Int) (t41 t42 t43 : Tok) (hx4 : (x4, instObj 173 d4) ∈ news) (hd4 : (d4, bmDict w t41 t42 s4 c4 t43) ∈ news) (S4 : SetS false (ledOf w) so4 (fun j => (P0 j ^^ P1 j) ^^ P2 j))
    (x5 d5 s5 : Addr) (so5 : Obj) (c5 : Int) (t51 t52 t53 : Tok) (hx5 : (x5, instObj 173 d5) ∈ news) (hd5 : (d5, bmDict w t51 t52 s5 c5 t53) ∈ news) (S5 : SetS false (ledOf w) so5 (fun j => ((Pa j && !P0 j) && !P1 j) && !P2 j))
    (x6 d6 s6 : Addr) (so6 : Obj) (c6 : Int) (t61 t62 t63 : Tok) (hx6 : (x6, instObj 173 d6) ∈ news) (hd6 : (d6, bmDict w t61 t62 s6 c6 t63) ∈ news) (S6 : SetS true (ledOf w) so6 Pa)
    (ne01 : @Ne Nat s0 s1) (ne02 : @Ne Nat s0 s2) (ne03 : @Ne Nat s0 s3) (ne04 : @Ne Nat s0 s4) (ne05 : @Ne Nat s0 s5) (ne06 : @Ne Nat s0 s6) (ne12 : @Ne Nat s1 s2) (ne13 : @Ne Nat s1 s3) (ne14 : @Ne Nat s1 s4) (ne15 : @Ne Nat s1 s5) (ne16 : @Ne Nat s1 s6) (ne23 : @Ne Nat s2 s3) (ne24 : @Ne Nat s2 s4) (ne25 : @Ne Nat s2 s5) (ne26 : @Ne Nat s2 s6) (ne34 : @Ne Nat s3 s4) (ne35 : @Ne Nat s3 s5) (ne36 : @Ne Nat s3 s6) (ne45 : @Ne Nat s4 s5) (ne46 : @Ne Nat s4 s6) (ne56 : @Ne Nat s5 s6)
    (limit : Int) (hl0 : 0 < limit) (hl1 : limit ≤ 150) (ol : Obj) (tl : Tok) (hol : (h₀.objs.size + 1 + 1, ol) ∈ news) (e2 : ol.data = Data.cell (some (.int limit tl)))
    (lm ls ld : Addr) (ys yd : List Value) (g0 g1 g2 g01 g02 g12 g012 : Int) (tt : Tok) (hls : (ls, LCg.lst ys) ∈ news) (hld : (ld, LCg.lst yd) ∈ news)
    (hys : IntsAre ys [g0, g1, g2]) (hyd : IntsAre yd [g01, g02, g12])
    
    (hm_maps : m (Str.ofString "maps") = some (.ref lm)) (hm_singles : m (Str.ofString "singles") = some (.ref ls)) (hm_doubles : m (Str.ofString "doubles") = some (.ref ld)) (hm_triple : m (Str.ofString "triple") = some (.int g012 tt)) (hm_first : m (Str.ofString "first") = some (.ref x0)) (hm_second : m (Str.ofString "second") = some (.ref x1)) (hm_third : m (Str.ofString "third") = some (.ref x2)) (hm_some : m (Str.ofString "some") = some (.ref x3)) (hm_odd : m (Str.ofString "odd") = some (.ref x4)) (hm_none : m (Str.ofString "none") = some (.ref x5)) (hm_all_places : m (Str.ofString "all_places") = some (.ref x6))
    (F : Fr h₀ h₀.objs.size s.heap m)
    (N : News h₀ h₀.objs.size s.heap ((s0, so0) :: (s1, so1) :: (s2, so2) :: (s3, so3) :: (s4, so4) :: (s5, so5) :: (s6, so6) :: news))
    (hpa : ∀ k, (P0 k || P1 k || P2 k) = true → Pa k = true)
    (hret : ∀ (h' : Heap) (tk' : Nat), Fr h₀ h₀.objs.size h' m → News h₀ h₀.objs.size h' ((s0, so0) :: (s1, so1) :: (s2, so2) :: (s3, so3) :: (s4, so4) :: (s5, so5) :: (s6, so6) :: news) → Q .next { s with heap := h', toks := tk' }) :
    wpAny (model Challenge.rw_bh0020_01.row.prog w) (callerA.deeper (envOfC nm scope h₀.objs.size fa cd)) (exec ((body.drop 16).headD (Stmt.Pass default)) (envOfC nm scope h₀.objs.size fa cd)) Q E s := by
  obtain ⟨u, e⟩ : ∃ u : Str → Option Value, m = (fun y => if y = Str.ofString "maps" then some (.ref lm) else if y = Str.ofString "singles" then some (.ref ls) else if y = Str.ofString "doubles" then some (.ref ld) else if y = Str.ofString "triple" then some (.int g012 tt) else if y = Str.ofString "first" then some (.ref x0) else if y = Str.ofString "second" then some (.ref x1) else if y = Str.ofString "third" then some (.ref x2) else if y = Str.ofString "some" then some (.ref x3) else if y = Str.ofString "odd" then some (.ref x4) else if y = Str.ofString "none" then some (.ref x5) else if y = Str.ofString "all_places" then some (.ref x6) else u y) := ⟨m, fr_cons hm_maps (fr_cons hm_singles (fr_cons hm_doubles (fr_cons hm_triple (fr_cons hm_first (fr_cons hm_second (fr_cons hm_third (fr_cons hm_some (fr_cons hm_odd (fr_cons hm_none (fr_cons hm_all_places (rfl)))))))))))⟩
  clear hm_maps hm_singles hm_doubles hm_triple hm_first hm_second hm_third hm_some hm_odd hm_none hm_all_places
  subst e
  w_top off
  k_with_none
  have hfill : Challenge.rw_bh0020_01 = Challenge.rw_bh0020_01 ∧ (Mine.hd.heap_39 w.params).In h₀ := ⟨rfl, X⟩
  revert hfill
  k_fill
  intro hfill
  clear hfill
  unfold Challenge.pw_bh0020_01 at hlaw
  simp only [List.getLast?_cons_cons, List.getLast?_singleton, Option.some.injEq] at hlaw
  injection hlaw with h1 h2 h3 h4 h5 h6 h7 h8 h9 h10
  subst h1 h3 h7
  clear h2 h4 h5 h6 h8 h9 h10 args decs ret tps tscope bind pos
  (try dsimp only [List.drop, List.headD])
  k_steps
  all_goals try omega
  exact hret _ _ (by assumption) (cb_drop (by assumption) (fun p hp => by repeat (first | exact hp | apply List.Mem.tail)))
end Mine
end
section
open PySem PySem.W PyProof.Rows
set_option maxRecDepth 100000
set_option maxHeartbeats 8000000
namespace Mine
local macro_rules | `(tactic| walk_at "pad 0") => `(tactic| skip)
local macro_rules | `(tactic| walk_at "pad 1") => `(tactic| skip)
local macro_rules | `(tactic| walk_at "pad 2") => `(tactic| skip)
local macro_rules | `(tactic| walk_at "pad 3") => `(tactic| skip)
local macro_rules | `(tactic| walk_at "pad 4") => `(tactic| skip)
local macro_rules | `(tactic| walk_at "pad 5") => `(tactic| skip)
local macro_rules | `(tactic| walk_at "pad 6") => `(tactic| skip)
local macro_rules | `(tactic| walk_at "pad 7") => `(tactic| skip)
local macro_rules | `(tactic| walk_at "pad 8") => `(tactic| skip)
local macro_rules | `(tactic| walk_at "pad 9") => `(tactic| skip)
local macro_rules | `(tactic| walk_at "pad 10") => `(tactic| skip)
local macro_rules | `(tactic| walk_at "pad 11") => `(tactic| skip)
local macro_rules | `(tactic| walk_at "pad 12") => `(tactic| skip)
local macro_rules | `(tactic| walk_at "pad 13") => `(tactic| skip)
local macro_rules | `(tactic| walk_at "pad 14") => `(tactic| skip)
local macro_rules | `(tactic| walk_at "pad 15") => `(tactic| skip)
local macro_rules | `(tactic| walk_at "pad 16") => `(tactic| skip)
local macro_rules | `(tactic| walk_at "pad 17") => `(tactic| skip)
local macro_rules | `(tactic| walk_at "pad 18") => `(tactic| skip)
local macro_rules | `(tactic| walk_at "pad 19") => `(tactic| skip)
local macro_rules | `(tactic| walk_at "pad 20") => `(tactic| skip)
local macro_rules | `(tactic| walk_at "pad 21") => `(tactic| skip)
local macro_rules | `(tactic| walk_at "pad 22") => `(tactic| skip)
local macro_rules | `(tactic| walk_at "pad 23") => `(tactic| skip)
local macro_rules | `(tactic| walk_at "pad 24") => `(tactic| skip)
local macro_rules | `(tactic| walk_at "pad 25") => `(tactic| skip)
local macro_rules | `(tactic| walk_at "pad 26") => `(tactic| skip)
local macro_rules | `(tactic| walk_at "pad 27") => `(tactic| skip)
local macro_rules | `(tactic| walk_at "call ref") => `(tactic| (k_here; (with_reducible show wpAny _ _ (call (Value.ref 184) _ _) _ _ _); (k_dflt (refine' bm_at _ _ _ _ _ _ _ _ _ _ _ _ _ _ _ _ _ _ _ _ _ _ ?kB ?kF ?kX ?kN ?kT ?kk ?kd ?ku _ _ _ ?kl ?ki ?kln _ _ _ _ ?k0 ?k1 ?_; (case kB => k_asm); (case kF => k_asm); (case kX => k_asm); (case kN => k_asm); (case kT => k_asm); (case kk => first | exact rfl | assumption); (case kd => ktr_room); (case ku => ktr_units); (case kl => k_asm); (case ki => k_asm); (case kln => omega); (case k0 => omega); (case k1 => omega); k_whole)); intro t' h' tk' F' N'))
local macro_rules | `(tactic| walk_at "call ref") => `(tactic| (k_here; (with_reducible show wpAny _ _ (call (Value.ref 173) _ _) _ _ _); (k_dflt (refine' bm_new _ _ _ _ _ _ _ _ _ _ _ _ _ _ _ _ _ _ _ _ _ _ ?kB ?kF ?kX ?kN ?kT ?kk ?kd ?ku  ?_; (case kB => k_asm); (case kF => k_asm); (case kX => k_asm); (case kN => k_asm); (case kT => k_asm); (case kk => first | exact rfl | assumption); (case kd => ktr_room); (case ku => ktr_units);  k_whole)); intro x' d' a' o' t1' t2' t3' h' tk' F' N' l1 l2 l3 hs'; (try simp only [AllLt, and_true] at l1); (try dsimp only [bmDict] at N')))
local macro_rules | `(tactic| walk_at "call ref") => `(tactic| (k_here; (with_reducible show wpAny _ _ (call (Value.ref 191) _ _) _ _ _); (k_dflt (refine' bm_multiple _ _ _ _ _ _ _ _ _ _ _ _ _ _ _ _ _ _ _ _ _ _ ?kB ?kF ?kX ?kN ?kT ?kk ?kd ?ku _ _ _ ?kl ?ki _ _ _ _ ?k0 ?k1 ?k2 ?k3 ?_; (case kB => k_asm); (case kF => k_asm); (case kX => k_asm); (case kN => k_asm); (case kT => k_asm); (case kk => first | exact rfl | assumption); (case kd => ktr_room); (case ku => ktr_units); (case kl => k_asm); (case ki => k_asm); (case k0 => omega); (case k1 => omega); (case k2 => omega); (case k3 => omega); k_whole)); intro t' h' tk' F' N'))
local macro_rules | `(tactic| walk_at "binaryOp BitOr") => `(tactic| (k_here; (with_reducible show wpAny _ _ (binaryOp Operator.BitOr (Value.ref _) (Value.ref _)) _ _ _); (k_dflt (refine' bm_or _ _ _ _ _ _ _ _ _ _ _ _ _ _ _ _ _ _ _ _ _ _ ?kB ?kF ?kX ?kN ?kT ?kk ?kd ?ku _ _ _ _ _ _ _ _ _ _ _ _ _ _ _ _ _ _ _ _ ?m1 ?m2 ?m3 ?m4 ?m5 ?m6 ?s1 ?s2 ?ne ?_; (case kB => k_asm); (case kF => k_asm); (case kX => k_asm); (case kN => k_asm); (case kT => k_asm); (case kk => first | exact rfl | assumption); (case kd => ktr_room); (case ku => ktr_units); (case m1 => k_mem); (case m2 => k_mem); (case m3 => k_mem); (case m4 => k_mem); (case m5 => k_mem); (case m6 => k_mem); (case s1 => assumption); (case s2 => assumption); (case ne => ((show @Ne Nat _ _); omega)); k_whole)); intro x' d' a' o' c' t1' t2' t3' h' tk' F' N' l1 l2 l3 hs'; (try simp only [AllLt, and_true] at l1); (try dsimp only [bmDict] at N')))
local macro_rules | `(tactic| walk_at "binaryOp BitAnd") => `(tactic| (k_here; (with_reducible show wpAny _ _ (binaryOp Operator.BitAnd (Value.ref _) (Value.ref _)) _ _ _); (k_dflt (refine' bm_and _ _ _ _ _ _ _ _ _ _ _ _ _ _ _ _ _ _ _ _ _ _ ?kB ?kF ?kX ?kN ?kT ?kk ?kd ?ku _ _ _ _ _ _ _ _ _ _ _ _ _ _ _ _ _ _ _ _ ?m1 ?m2 ?m3 ?m4 ?m5 ?m6 ?s1 ?s2 ?ne ?_; (case kB => k_asm); (case kF => k_asm); (case kX => k_asm); (case kN => k_asm); (case kT => k_asm); (case kk => first | exact rfl | assumption); (case kd => ktr_room); (case ku => ktr_units); (case m1 => k_mem); (case m2 => k_mem); (case m3 => k_mem); (case m4 => k_mem); (case m5 => k_mem); (case m6 => k_mem); (case s1 => assumption); (case s2 => assumption); (case ne => ((show @Ne Nat _ _); omega)); k_whole)); intro x' d' a' o' c' t1' t2' t3' h' tk' F' N' l1 l2 l3 hs'; (try simp only [AllLt, and_true] at l1); (try dsimp only [bmDict] at N')))
local macro_rules | `(tactic| walk_at "binaryOp BitXor") => `(tactic| (k_here; (with_reducible show wpAny _ _ (binaryOp Operator.BitXor (Value.ref _) (Value.ref _)) _ _ _); (k_dflt (refine' bm_xor _ _ _ _ _ _ _ _ _ _ _ _ _ _ _ _ _ _ _ _ _ _ ?kB ?kF ?kX ?kN ?kT ?kk ?kd ?ku _ _ _ _ _ _ _ _ _ _ _ _ _ _ _ _ _ _ _ _ ?m1 ?m2 ?m3 ?m4 ?m5 ?m6 ?s1 ?s2 ?_; (case kB => k_asm); (case kF => k_asm); (case kX => k_asm); (case kN => k_asm); (case kT => k_asm); (case kk => first | exact rfl | assumption); (case kd => ktr_room); (case ku => ktr_units); (case m1 => k_mem); (case m2 => k_mem); (case m3 => k_mem); (case m4 => k_mem); (case m5 => k_mem); (case m6 => k_mem); (case s1 => assumption); (case s2 => assumption); k_whole)); intro x' d' a' o' c' t1' t2' t3' h' tk' F' N' l1 l2 l3 hs'; (try simp only [AllLt, and_true] at l1); (try dsimp only [bmDict] at N')))
local macro_rules | `(tactic| walk_at "binaryOp Sub") => `(tactic| (k_here; (with_reducible show wpAny _ _ (binaryOp Operator.Sub (Value.ref _) (Value.ref _)) _ _ _); (k_dflt (refine' bm_sub _ _ _ _ _ _ _ _ _ _ _ _ _ _ _ _ _ _ _ _ _ _ ?kB ?kF ?kX ?kN ?kT ?kk ?kd ?ku _ _ _ _ _ _ _ _ _ _ _ _ _ _ _ _ _ _ _ _ ?m1 ?m2 ?m3 ?m4 ?m5 ?m6 ?s1 ?s2 ?_; (case kB => k_asm); (case kF => k_asm); (case kX => k_asm); (case kN => k_asm); (case kT => k_asm); (case kk => first | exact rfl | assumption); (case kd => ktr_room); (case ku => ktr_units); (case m1 => k_mem); (case m2 => k_mem); (case m3 => k_mem); (case m4 => k_mem); (case m5 => k_mem); (case m6 => k_mem); (case s1 => assumption); (case s2 => assumption); k_whole)); intro x' d' a' o' c' t1' t2' t3' h' tk' F' N' l1 l2 l3 hs'; (try simp only [AllLt, and_true] at l1); (try dsimp only [bmDict] at N')))
local macro_rules | `(tactic| walk_at "call builtin:len") => `(tactic| (k_here; (with_reducible show wpAny _ _ (call (Value.builtin "len") [Value.ref _] _) _ _ _); (k_dflt (refine' bm_len _ _ _ _ _ _ _ _ _ _ _ _ _ _ _ _ _ _ _ _ _ _ ?kB ?kF ?kX ?kN ?kT ?kk ?kd ?ku _ _ _ _ _ _ _ _ _ _ ?m1 ?m2 ?m3 ?s1 ?_; (case kB => k_asm); (case kF => k_asm); (case kX => k_asm); (case kN => k_asm); (case kT => k_asm); (case kk => first | exact rfl | assumption); (case kd => ktr_room); (case ku => ktr_units); (case m1 => k_mem); (case m2 => k_mem); (case m3 => k_mem); (case s1 => assumption); k_whole)); intro t' h' tk' F' N'))
local macro_rules | `(tactic| walk_at "call ref") => `(tactic| (k_here; (with_reducible show wpAny _ _ (call (Value.ref 196) _ _) _ _ _); (k_dflt (refine' bm_same _ _ _ _ _ _ _ _ _ _ _ _ _ _ _ _ _ _ _ _ _ _ ?kB ?kF ?kX ?kN ?kT ?kk ?kd ?ku _ _ _ _ _ _ _ _ _ _ _ _ _ _ _ _ _ _ _ _ _ _ ?m1 ?m2 ?m3 ?m4 ?m5 ?m6 ?s1 ?s2 ?l0 ?l1 ?eq ?_; (case kB => k_asm); (case kF => k_asm); (case kX => k_asm); (case kN => k_asm); (case kT => k_asm); (case kk => first | exact rfl | assumption); (case kd => ktr_room); (case ku => ktr_units); (case m1 => k_mem); (case m2 => k_mem); (case m3 => k_mem); (case m4 => k_mem); (case m5 => k_mem); (case m6 => k_mem); (case s1 => assumption); (case s2 => assumption); (case l0 => omega); (case l1 => omega); (case eq => walk_at "same_eq"); k_whole)); intro h' tk' F' N'))
local macro_rules | `(tactic| k_mem) => `(tactic| ((fail_if_success (refine' List.Mem.tail _ ?_)); assumption))
local macro_rules | `(tactic| walk_at "same_eq") => `(tactic| (intro k; (first | exact same1 _ _ _ | exact same2 _ _ _ | exact same3 _ _ _ _ | exact same5 _ _ _ | (refine same4' ?_ k; assumption))))
local macro_rules | `(tactic| walk_at "exec Return some") => `(tactic| ((with_reducible show wpAny _ _ (exec (Stmt.Return (some (Expr.Constant _ _ _)) _) _) _ _ _); refine Stop.out ?_))
theorem stage_e (w : World) (mean : ExcName → Option Value) (mg mb : Str → Option Value) (fa : Addr) (cd : Value) (h₀ : Heap) (s : Shared) (Q : Flow → Shared → Prop) (E : Value → Shared → Prop) (m : Str → Option Value) (news : Ledger)
    (nm : Str) (args : Arguments) (body : List Stmt) (decs : List Expr) (ret : Option Expr) (tps : List TypeParam) (scope : Scope) (tscope : Option Scope) (bind : Str) (pos : Pos)
    (hlaw : Challenge.pw_bh0020_01.main.body.getLast? = some (Stmt.FunctionDef nm args body decs ret tps scope tscope bind pos))
    (B : Below callerA h₀ [] h₀) (X : (Mine.hd.heap_39 w.params).In h₀) (T : Top Mine.hd.view_39 (looseW Mine.hd.view_39 [Str.ofString "struct", Str.ofString "BytesIO"]) mean mg mb h₀)
    (P0 P1 P2 Pa : Int → Bool) (x0 d0 s0 : Addr) (so0 : Obj) (c0 : Int) (t01 t02 t03 : Tok) (hx0 : (x0, instObj 173 d0) ∈ news) (hd0 : (d0, bmDict w t01 t02 s0 c0 t03) ∈ news) (S0 : SetS true (ledOf w) so0 P0)
    (x1 d1 s1 : Addr) (so1 : Obj) (c1 : Int) (t11 t12 t13 : Tok) (hx1 : (x1, instObj 173 d1) ∈ news) (hd1 : (d1, bmDict w t11 t12 s1 c1 t13) ∈ news) (S1 : SetS true (ledOf w) so1 P1)
    (x2 d2 s2 : Addr) (so2 : Obj) (c2 : Int) (t21 t22 t23 : Tok) (hx2 : (x2, instObj 173 d2) ∈ news) (hd2 : (d2, bmDict w t21 t22 s2 c2 t23) ∈ news) (S2 : SetS true (ledOf w) so2 P2)
    (x3 d3 s3 : Addr) (so3 : Obj) (c3 : Int) (t31 t32 t33 : Tok) (hx3 : (x3, instObj 173 d3) ∈ news) (hd3 : (d3, bmDict w t31 t32 s3 c3 t33) ∈ news) (S3 : SetS false (ledOf w) so3 (fun j => (P0 j || P1 j) || P2 j))
    (x4 d4 s4 : Addr) (so4 : Obj) (c4 : Int) (t41 t42 t43 : Tok) (hx4 : (x4, instObj 173 d4) ∈ news) (hd4 : (d4, bmDict w t41 t42 s4 c4 t43) ∈ news) (S4 : SetS false (ledOf w) so4 (fun j => (P0 j ^^ P1 j) ^^ P2 j))
    (x5 d5 s5 : Addr) (so5 : Obj) (c5 : Int) (t51 t52 t53 : Tok) (hx5 : (x5, instObj 173 d5) ∈ news) (hd5 : (d5, bmDict w t51 t52 s5 c5 t53) ∈ news) (S5 : SetS false (ledOf w) so5 (fun j => ((Pa j && !P0 j) && !P1 j) && !P2 j))
    (x6 d6 s6 : Addr) (so6 : Obj) (c6 : Int) (t61 t62 t63 : Tok) (hx6 : (x6, instObj 173 d6) ∈ news) (hd6 : (d6, bmDict w t61 t62 s6 c6 t63) ∈ news) (S6 : SetS true (ledOf w) so6 Pa)
    (ne01 : @Ne Nat s0 s1) (ne02 : @Ne Nat s0 s2) (ne03 : @Ne Nat s0 s3) (ne04 : @Ne Nat s0 s4) (ne05 : @Ne Nat s0 s5) (ne06 : @Ne Nat s0 s6) (ne12 : @Ne Nat s1 s2) (ne13 : @Ne Nat s1 s3) (ne14 : @Ne Nat s1 s4) (ne15 : @Ne Nat s1 s5) (ne16 : @Ne Nat s1 s6) (ne23 : @Ne Nat s2 s3) (ne24 : @Ne Nat s2 s4) (ne25 : @Ne Nat s2 s5) (ne26 : @Ne Nat s2 s6) (ne34 : @Ne Nat s3 s4) (ne35 : @Ne Nat s3 s5) (ne36 : @Ne Nat s3 s6) (ne45 : @Ne Nat s4 s5) (ne46 : @Ne Nat s4 s6) (ne56 : @Ne Nat s5 s6)
    (limit : Int) (hl0 : 0 < limit) (hl1 : limit ≤ 150) (ol : Obj) (tl : Tok) (hol : (h₀.objs.size + 1 + 1, ol) ∈ news) (e2 : ol.data = Data.cell (some (.int limit tl)))
    (lm ls ld : Addr) (ys yd : List Value) (g0 g1 g2 g01 g02 g12 g012 : Int) (tt : Tok) (hls : (ls, LCg.lst ys) ∈ news) (hld : (ld, LCg.lst yd) ∈ news)
    (hys : IntsAre ys [g0, g1, g2]) (hyd : IntsAre yd [g01, g02, g12])
    
    (hm_maps : m (Str.ofString "maps") = some (.ref lm)) (hm_singles : m (Str.ofString "singles") = some (.ref ls)) (hm_doubles : m (Str.ofString "doubles") = some (.ref ld)) (hm_triple : m (Str.ofString "triple") = some (.int g012 tt)) (hm_first : m (Str.ofString "first") = some (.ref x0)) (hm_second : m (Str.ofString "second") = some (.ref x1)) (hm_third : m (Str.ofString "third") = some (.ref x2)) (hm_some : m (Str.ofString "some") = some (.ref x3)) (hm_odd : m (Str.ofString "odd") = some (.ref x4)) (hm_none : m (Str.ofString "none") = some (.ref x5)) (hm_all_places : m (Str.ofString "all_places") = some (.ref x6))
    (F : Fr h₀ h₀.objs.size s.heap m)
    (N : News h₀ h₀.objs.size s.heap ((s0, so0) :: (s1, so1) :: (s2, so2) :: (s3, so3) :: (s4, so4) :: (s5, so5) :: (s6, so6) :: news))
    (hpa : ∀ k, (P0 k || P1 k || P2 k) = true → Pa k = true)
    (hret : ∀ (h' : Heap) (tk' : Nat), Fr h₀ h₀.objs.size h' m → Q (.ret (.bool true)) { s with heap := h', toks := tk' }) :
    wpAny (model Challenge.rw_bh0020_01.row.prog w) (callerA.deeper (envOfC nm scope h₀.objs.size fa cd)) (exec ((body.drop 17).headD (Stmt.Pass default)) (envOfC nm scope h₀.objs.size fa cd)) Q E s := by
  obtain ⟨u, e⟩ : ∃ u : Str → Option Value, m = (fun y => if y = Str.ofString "maps" then some (.ref lm) else if y = Str.ofString "singles" then some (.ref ls) else if y = Str.ofString "doubles" then some (.ref ld) else if y = Str.ofString "triple" then some (.int g012 tt) else if y = Str.ofString "first" then some (.ref x0) else if y = Str.ofString "second" then some (.ref x1) else if y = Str.ofString "third" then some (.ref x2) else if y = Str.ofString "some" then some (.ref x3) else if y = Str.ofString "odd" then some (.ref x4) else if y = Str.ofString "none" then some (.ref x5) else if y = Str.ofString "all_places" then some (.ref x6) else u y) := ⟨m, fr_cons hm_maps (fr_cons hm_singles (fr_cons hm_doubles (fr_cons hm_triple (fr_cons hm_first (fr_cons hm_second (fr_cons hm_third (fr_cons hm_some (fr_cons hm_odd (fr_cons hm_none (fr_cons hm_all_places (rfl)))))))))))⟩
  clear hm_maps hm_singles hm_doubles hm_triple hm_first hm_second hm_third hm_some hm_odd hm_none hm_all_places
  subst e
  w_top off
  k_with_none
  have hfill : Challenge.rw_bh0020_01 = Challenge.rw_bh0020_01 ∧ (Mine.hd.heap_39 w.params).In h₀ := ⟨rfl, X⟩
  revert hfill
  k_fill
  intro hfill
  clear hfill
  unfold Challenge.pw_bh0020_01 at hlaw
  simp only [List.getLast?_cons_cons, List.getLast?_singleton, Option.some.injEq] at hlaw
  injection hlaw with h1 h2 h3 h4 h5 h6 h7 h8 h9 h10
  subst h1 h3 h7
  clear h2 h4 h5 h6 h8 h9 h10 args decs ret tps tscope bind pos
  (try dsimp only [List.drop, List.headD])
  k_steps
  all_goals try omega
  exact hret _ _ (by assumption)
end Mine
end
section
open PySem PySem.W PyProof.Rows
set_option maxRecDepth 100000
set_option maxHeartbeats 8000000
namespace Mine
local macro_rules | `(tactic| walk_at "pad 0") => `(tactic| skip)
local macro_rules | `(tactic| walk_at "pad 1") => `(tactic| skip)
local macro_rules | `(tactic| walk_at "pad 2") => `(tactic| skip)
local macro_rules | `(tactic| walk_at "pad 3") => `(tactic| skip)
local macro_rules | `(tactic| walk_at "pad 4") => `(tactic| skip)
local macro_rules | `(tactic| walk_at "pad 5") => `(tactic| skip)
local macro_rules | `(tactic| walk_at "pad 6") => `(tactic| skip)
local macro_rules | `(tactic| walk_at "pad 7") => `(tactic| skip)
local macro_rules | `(tactic| walk_at "pad 8") => `(tactic| skip)
local macro_rules | `(tactic| walk_at "pad 9") => `(tactic| skip)
local macro_rules | `(tactic| walk_at "pad 10") => `(tactic| skip)
local macro_rules | `(tactic| walk_at "pad 11") => `(tactic| skip)
local macro_rules | `(tactic| walk_at "pad 12") => `(tactic| skip)
local macro_rules | `(tactic| walk_at "pad 13") => `(tactic| skip)
local macro_rules | `(tactic| walk_at "pad 14") => `(tactic| skip)
local macro_rules | `(tactic| walk_at "pad 15") => `(tactic| skip)
local macro_rules | `(tactic| walk_at "pad 16") => `(tactic| skip)
local macro_rules | `(tactic| walk_at "pad 17") => `(tactic| skip)
local macro_rules | `(tactic| walk_at "pad 18") => `(tactic| skip)
local macro_rules | `(tactic| walk_at "pad 19") => `(tactic| skip)
local macro_rules | `(tactic| walk_at "pad 20") => `(tactic| skip)
local macro_rules | `(tactic| walk_at "pad 21") => `(tactic| skip)
local macro_rules | `(tactic| walk_at "mk_bd") => `(tactic| first | omega | (simp [List.getD] <;> omega))
local macro_rules | `(tactic| walk_at "call ref") => `(tactic| (k_here; (with_reducible show wpAny _ _ (call (Value.ref 184) _ _) _ _ _); (k_dflt (refine' bm_at _ _ _ _ _ _ _ _ _ _ _ _ _ _ _ _ _ _ _ _ _ _ ?kB ?kF ?kX ?kN ?kT ?kk ?kd ?ku _ _ _ ?kl ?ki ?kln _ _ _ _ ?k0 ?k1 ?_; (case kB => k_asm); (case kF => k_asm); (case kX => k_asm); (case kN => k_asm); (case kT => k_asm); (case kk => first | exact rfl | assumption); (case kd => ktr_room); (case ku => ktr_units); (case kl => k_asm); (case ki => k_asm); (case kln => omega); (case k0 => omega); (case k1 => omega); k_whole)); intro t' h' tk' F' N'))
local macro_rules | `(tactic| walk_at "call ref") => `(tactic| (k_here; (with_reducible show wpAny _ _ (call (Value.ref 173) _ _) _ _ _); (k_dflt (refine' bm_new _ _ _ _ _ _ _ _ _ _ _ _ _ _ _ _ _ _ _ _ _ _ ?kB ?kF ?kX ?kN ?kT ?kk ?kd ?ku  ?_; (case kB => k_asm); (case kF => k_asm); (case kX => k_asm); (case kN => k_asm); (case kT => k_asm); (case kk => first | exact rfl | assumption); (case kd => ktr_room); (case ku => ktr_units);  k_whole)); intro x' d' a' o' t1' t2' t3' h' tk' F' N' l1 l2 l3 hs'; (k_dflt (have l1 := And.intro (And.left l1) (And.left (And.right l1)))); (try dsimp only at l1); (try dsimp only [bmDict] at N')))
local macro_rules | `(tactic| walk_at "call ref") => `(tactic| (k_here; (with_reducible show wpAny _ _ (call (Value.ref 191) _ _) _ _ _); (k_dflt (refine' bm_lcm _ _ _ _ _ _ _ _ _ _ _ _ _ _ _ _ _ _ _ _ _ _ ?kB ?kF ?kX ?kN ?kT ?kk ?kd ?ku _ _ _ ?kl ?ki _ _ _ _ ?k0 ?k1 ?k2 ?k3 ?_; (case kB => k_asm); (case kF => k_asm); (case kX => k_asm); (case kN => k_asm); (case kT => k_asm); (case kk => first | exact rfl | assumption); (case kd => ktr_room); (case ku => ktr_units); (case kl => k_asm); (case ki => k_asm); (case k0 => walk_at "mk_bd"); (case k1 => first | omega | (apply lcm_less <;> walk_at "mk_bd") | walk_at "mk_bd"); (case k2 => walk_at "mk_bd"); (case k3 => walk_at "mk_bd"); k_whole)); intro t' h' tk' F' N' hq0' hq1'; clear hq1'))
local macro_rules | `(tactic| walk_at "binaryOp BitOr") => `(tactic| (k_here; (with_reducible show wpAny _ _ (binaryOp Operator.BitOr (Value.ref _) (Value.ref _)) _ _ _); (k_dflt (refine' bm_or _ _ _ _ _ _ _ _ _ _ _ _ _ _ _ _ _ _ _ _ _ _ ?kB ?kF ?kX ?kN ?kT ?kk ?kd ?ku _ _ _ _ _ _ _ _ _ _ _ _ _ _ _ _ _ _ _ _ ?m1 ?m2 ?m3 ?m4 ?m5 ?m6 ?s1 ?s2 ?ne ?_; (case kB => k_asm); (case kF => k_asm); (case kX => k_asm); (case kN => k_asm); (case kT => k_asm); (case kk => first | exact rfl | assumption); (case kd => ktr_room); (case ku => ktr_units); (case m1 => k_mem); (case m2 => k_mem); (case m3 => k_mem); (case m4 => k_mem); (case m5 => k_mem); (case m6 => k_mem); (case s1 => assumption); (case s2 => assumption); (case ne => ((show @Ne Nat _ _); omega)); k_whole)); intro x' d' a' o' c' t1' t2' t3' h' tk' F' N' l1 l2 l3 hs'; (k_dflt (have l1 := And.intro (And.left l1) (And.left (And.right l1)))); (try dsimp only at l1); (try dsimp only [bmDict] at N')))
local macro_rules | `(tactic| walk_at "binaryOp BitAnd") => `(tactic| (k_here; (with_reducible show wpAny _ _ (binaryOp Operator.BitAnd (Value.ref _) (Value.ref _)) _ _ _); (k_dflt (refine' bm_and _ _ _ _ _ _ _ _ _ _ _ _ _ _ _ _ _ _ _ _ _ _ ?kB ?kF ?kX ?kN ?kT ?kk ?kd ?ku _ _ _ _ _ _ _ _ _ _ _ _ _ _ _ _ _ _ _ _ ?m1 ?m2 ?m3 ?m4 ?m5 ?m6 ?s1 ?s2 ?ne ?_; (case kB => k_asm); (case kF => k_asm); (case kX => k_asm); (case kN => k_asm); (case kT => k_asm); (case kk => first | exact rfl | assumption); (case kd => ktr_room); (case ku => ktr_units); (case m1 => k_mem); (case m2 => k_mem); (case m3 => k_mem); (case m4 => k_mem); (case m5 => k_mem); (case m6 => k_mem); (case s1 => assumption); (case s2 => assumption); (case ne => ((show @Ne Nat _ _); omega)); k_whole)); intro x' d' a' o' c' t1' t2' t3' h' tk' F' N' l1 l2 l3 hs'; (k_dflt (have l1 := And.intro (And.left l1) (And.left (And.right l1)))); (try dsimp only at l1); (try dsimp only [bmDict] at N')))
local macro_rules | `(tactic| walk_at "binaryOp BitXor") => `(tactic| (k_here; (with_reducible show wpAny _ _ (binaryOp Operator.BitXor (Value.ref _) (Value.ref _)) _ _ _); (k_dflt (refine' bm_xor _ _ _ _ _ _ _ _ _ _ _ _ _ _ _ _ _ _ _ _ _ _ ?kB ?kF ?kX ?kN ?kT ?kk ?kd ?ku _ _ _ _ _ _ _ _ _ _ _ _ _ _ _ _ _ _ _ _ ?m1 ?m2 ?m3 ?m4 ?m5 ?m6 ?s1 ?s2 ?_; (case kB => k_asm); (case kF => k_asm); (case kX => k_asm); (case kN => k_asm); (case kT => k_asm); (case kk => first | exact rfl | assumption); (case kd => ktr_room); (case ku => ktr_units); (case m1 => k_mem); (case m2 => k_mem); (case m3 => k_mem); (case m4 => k_mem); (case m5 => k_mem); (case m6 => k_mem); (case s1 => assumption); (case s2 => assumption); k_whole)); intro x' d' a' o' c' t1' t2' t3' h' tk' F' N' l1 l2 l3 hs'; (k_dflt (have l1 := And.intro (And.left l1) (And.left (And.right l1)))); (try dsimp only at l1); (try dsimp only [bmDict] at N')))
local macro_rules | `(tactic| walk_at "binaryOp Sub") => `(tactic| (k_here; (with_reducible show wpAny _ _ (binaryOp Operator.Sub (Value.ref _) (Value.ref _)) _ _ _); (k_dflt (refine' bm_sub _ _ _ _ _ _ _ _ _ _ _ _ _ _ _ _ _ _ _ _ _ _ ?kB ?kF ?kX ?kN ?kT ?kk ?kd ?ku _ _ _ _ _ _ _ _ _ _ _ _ _ _ _ _ _ _ _ _ ?m1 ?m2 ?m3 ?m4 ?m5 ?m6 ?s1 ?s2 ?_; (case kB => k_asm); (case kF => k_asm); (case kX => k_asm); (case kN => k_asm); (case kT => k_asm); (case kk => first | exact rfl | assumption); (case kd => ktr_room); (case ku => ktr_units); (case m1 => k_mem); (case m2 => k_mem); (case m3 => k_mem); (case m4 => k_mem); (case m5 => k_mem); (case m6 => k_mem); (case s1 => assumption); (case s2 => assumption); k_whole)); intro x' d' a' o' c' t1' t2' t3' h' tk' F' N' l1 l2 l3 hs'; (k_dflt (have l1 := And.intro (And.left l1) (And.left (And.right l1)))); (try dsimp only at l1); (try dsimp only [bmDict] at N')))
local macro_rules | `(tactic| walk_at "call builtin:len") => `(tactic| (k_here; (with_reducible show wpAny _ _ (call (Value.builtin "len") [Value.ref _] _) _ _ _); (k_dflt (refine' bm_len _ _ _ _ _ _ _ _ _ _ _ _ _ _ _ _ _ _ _ _ _ _ ?kB ?kF ?kX ?kN ?kT ?kk ?kd ?ku _ _ _ _ _ _ _ _ _ _ ?m1 ?m2 ?m3 ?s1 ?_; (case kB => k_asm); (case kF => k_asm); (case kX => k_asm); (case kN => k_asm); (case kT => k_asm); (case kk => first | exact rfl | assumption); (case kd => ktr_room); (case ku => ktr_units); (case m1 => k_mem); (case m2 => k_mem); (case m3 => k_mem); (case s1 => assumption); k_whole)); intro t' h' tk' F' N'))
local macro_rules | `(tactic| walk_at "call ref") => `(tactic| (k_here; (with_reducible show wpAny _ _ (call (Value.ref 196) _ _) _ _ _); (k_dflt (refine' bm_same _ _ _ _ _ _ _ _ _ _ _ _ _ _ _ _ _ _ _ _ _ _ ?kB ?kF ?kX ?kN ?kT ?kk ?kd ?ku _ _ _ _ _ _ _ _ _ _ _ _ _ _ _ _ _ _ _ _ _ _ ?m1 ?m2 ?m3 ?m4 ?m5 ?m6 ?s1 ?s2 ?l0 ?l1 ?eq ?_; (case kB => k_asm); (case kF => k_asm); (case kX => k_asm); (case kN => k_asm); (case kT => k_asm); (case kk => first | exact rfl | assumption); (case kd => ktr_room); (case ku => ktr_units); (case m1 => k_mem); (case m2 => k_mem); (case m3 => k_mem); (case m4 => k_mem); (case m5 => k_mem); (case m6 => k_mem); (case s1 => assumption); (case s2 => assumption); (case l0 => omega); (case l1 => omega); (case eq => walk_at "same_eq"); k_whole)); intro h' tk' F' N'))
local macro_rules | `(tactic| walk_at "getMethod ref") => `(tactic| (k_here; (with_reducible show wpAny _ _ (getMethod (Value.ref _) (Str.ofString "add") _) _ _ _); k_dflt (refine' set_method ?N ?a ?A ?_; (case N => k_asm); (case a => k_mem); (case A => assumption); k_whole)))
local macro_rules | `(tactic| walk_at "call builtin:set.add") => `(tactic| (k_here; (with_reducible show wpAny _ _ (call (Value.builtin "set.add") [Value.ref _, Value.int _ _]) _ _ _); k_dflt (refine' set_add ?F ?N ?U ?d ?b0 ?b1 ?_; (case F => k_asm); (case N => k_asm); (case U => k_updF); (case d => assumption); (case b0 => omega); (case b1 => omega); k_whole); intro h' o' F' N' hs'; (try dsimp only at N')))
local macro_rules | `(tactic| walk_at "exec Assign cons ListComp") => `(tactic| ((with_reducible show wpAny _ _ (exec (Stmt.Assign [Expr.Name _ _] (Expr.ListComp _ [⟨Expr.Tuple [Expr.Name _ _, Expr.Name _ _] _ _, Expr.Tuple _ _ _, [], 0⟩] _ _) _) _) _ _ _); k_dflt (refine assign_pairs3 (F₀ := by k_asm) (by rfl) (by with_unfolding_all rfl) (by with_unfolding_all rfl) (by decide) (by rfl) (by decide) (by rfl) (by rfl) (by decide) (by rfl) (by rfl) (by intro _; rfl) ?_)))
local macro_rules | `(tactic| walk_at "SrcT3") => `(tactic| (k_dflt (refine' SrcT3.mk ?hh ?F ?N ?m1 ?m2 ?m3 ?m4 ?hl ?hn ?Ta ?Tb ?Tc ?fin; (case hh => exact rfl); (case F => k_asm); (case N => k_asm); (case m1 => k_mem); (case m2 => k_mem); (case m3 => k_mem); (case m4 => k_mem); (case hl => assumption); (case hn => k_mem)); (case' Ta => (intro I' oI' C' oC' D' ys' m' h' tk' E' hC' hx' hy' F' N' off' ne'; (try simp only [LCg.Off3, and_true] at off'))); (case' Tb => (intro I' oI' C' oC' D' ys' m' h' tk' E' hC' hx' hy' F' N' off' ne'; (try simp only [LCg.Off3, and_true] at off'))); (case' Tc => (intro I' oI' C' oC' D' ys' m' h' tk' E' hC' hx' hy' F' N' off' ne'; (try simp only [LCg.Off3, and_true] at off'))); (case' fin => (intro D' ys' h' tk' hys' F' N' o1'; (try simp only [LCg.Off1, and_true] at o1')))))
local macro_rules | `(tactic| walk_at "PairEl") => `(tactic| (refine PairEl.mk ?F ?N; (case F => assumption); (case N => assumption)))
local macro_rules | `(tactic| walk_at "exec For Tuple Call cons nil") => `(tactic| (k_here; (rename Fr _ _ _ _ => lF'); (with_unfolding_all refine' For_turns lF' ?_; k_whole)))
theorem news_cons {h₀ : Heap} {L : Addr} {h : Heap} {led led' : Ledger} {p : Addr × Obj} (N : News h₀ L h led) (N' : News h₀ L h led') (hp : p ∈ led) : News h₀ L h (p :: led') := fun q hq => by
  rcases List.mem_cons.mp hq with rfl | hq
  · exact N _ hp
  · exact N' _ hq
local macro_rules | `(tactic| walk_at "exec If") => `(tactic| (refine Stop.out ?_))
local macro_rules | `(tactic| walk_at "exec Return some") => `(tactic| ((with_reducible show wpAny _ _ (exec (Stmt.Return (some (Expr.BoolOp _ _ _)) _) _) _ _ _); refine Stop.out ?_))
theorem tail_walk (w : World) (mean : ExcName → Option Value) (mg mb : Str → Option Value) (fa : Addr) (cd : Value) (h₀ : Heap) (s : Shared) (Q : Flow → Shared → Prop) (E : Value → Shared → Prop) (u : Str → Option Value)
    (nm : Str) (args : Arguments) (body : List Stmt) (decs : List Expr) (ret : Option Expr) (tps : List TypeParam) (scope : Scope) (tscope : Option Scope) (bind : Str) (pos : Pos)
    (hlaw : Challenge.pw_bh0020_01.main.body.getLast? = some (Stmt.FunctionDef nm args body decs ret tps scope tscope bind pos))
    (limit n0 n1 n2 : Int) (tl tn0 tn1 tn2 : Tok) (hl0 : 0 < limit) (hl1 : limit ≤ 150) (h00 : 2 ≤ n0) (h01 : n0 ≤ 141) (h10 : 2 ≤ n1) (h11 : n1 ≤ 141) (h20 : 2 ≤ n2) (h21 : n2 ≤ 141)
    (lm xa da sa x0 d0 s0 x1 d1 s1 x2 d2 s2 ln : Addr) (soa so0 so1 so2 on ol os : Obj) (ca c0 c1 c2 : Int) (ta1 ta2 ta3 t01 t02 t03 t11 t12 t13 t21 t22 t23 : Tok) (sv : Option Value)
    (l0 : Addr) (vs : List Value) (ns : List Int) (hl : h₀.IsList l0 vs.toArray) (hi : IntsAre vs ns)
    (B : Below callerA h₀ [] h₀) (X : (Mine.hd.heap_39 w.params).In h₀) (T : Top Mine.hd.view_39 (looseW Mine.hd.view_39 [Str.ofString "struct", Str.ofString "BytesIO"]) mean mg mb h₀)
    (F : Fr h₀ h₀.objs.size s.heap (fun y => if y = Str.ofString "maps" then some (.ref lm) else if y = Str.ofString "all_places" then some (.ref xa) else u y))
    (N : News h₀ h₀.objs.size s.heap [(s2, so2), (x2, instObj 173 d2), (d2, bmDict w t21 t22 s2 c2 t23), (s1, so1), (x1, instObj 173 d1), (d1, bmDict w t11 t12 s1 c1 t13), (s0, so0), (x0, instObj 173 d0), (d0, bmDict w t01 t02 s0 c0 t03),
      (lm, W.listOf (((#[].push (Value.ref x0)).push (Value.ref x1)).push (Value.ref x2)) (0 + 1 + 1 + 1)), (sa, soa), (xa, instObj 173 da), (da, bmDict w ta1 ta2 sa ca ta3), (ln, LCg.lst [Value.int n0 tn0, Value.int n1 tn1, Value.int n2 tn2]),
      (h₀.objs.size + 1 + 1 + 1, on), (h₀.objs.size + 1 + 1, ol), (h₀.objs.size + 1, os)])
    (o1 : @LT.lt Nat _ (h₀.objs.size + 1 + 1 + 1) da) (of : @Ne Nat (h₀.objs.size + 1 + 1 + 1) ln) (og : @Ne Nat (h₀.objs.size + 1 + 1) ln) (oh : @Ne Nat (h₀.objs.size + 1) ln) (o2 : @LT.lt Nat _ ln da) (o3 : @LT.lt Nat _ da xa) (o4 : @LT.lt Nat _ xa sa) (o5 : @LT.lt Nat _ sa lm) (o6 : @LT.lt Nat _ lm d0) (o7 : @LT.lt Nat _ d0 x0) (o8 : @LT.lt Nat _ x0 s0)
    (o9 : @LT.lt Nat _ s0 d1) (oa : @LT.lt Nat _ d1 x1) (ob : @LT.lt Nat _ x1 s1) (oc : @LT.lt Nat _ s1 d2) (od : @LT.lt Nat _ d2 x2) (oe : @LT.lt Nat _ x2 s2)
    (e1 : on.data = Data.cell (some (.ref ln))) (e2 : ol.data = Data.cell (some (.int limit tl))) (e3 : os.data = Data.cell sv)
    (Sa : SetS true (ledOf w) soa (mulP 1 limit)) (S0 : SetS true (ledOf w) so0 (mulP n0 limit)) (S1 : SetS true (ledOf w) so1 (mulP n1 limit)) (S2 : SetS true (ledOf w) so2 (mulP n2 limit))
    (hret : ∀ (h' : Heap) (tk' : Nat) (m' : Str → Option Value), Fr h₀ h₀.objs.size h' m' → Q (.ret (.bool true)) { s with heap := h', toks := tk' }) :
    wpAny (model Challenge.rw_bh0020_01.row.prog w) (callerA.deeper (envOfC nm scope h₀.objs.size fa cd)) (execs (body.drop 6) (envOfC nm scope h₀.objs.size fa cd)) Q E s := by
  w_top off
  k_with_none
  have hfill : Challenge.rw_bh0020_01 = Challenge.rw_bh0020_01 ∧ (Mine.hd.heap_39 w.params).In h₀ := ⟨rfl, X⟩
  revert hfill
  k_fill
  intro hfill
  clear hfill
  unfold Challenge.pw_bh0020_01 at hlaw
  simp only [List.getLast?_cons_cons, List.getLast?_singleton, Option.some.injEq] at hlaw
  injection hlaw with h1 h2 h3 h4 h5 h6 h7 h8 h9 h10
  subst h1 h3 h7
  clear h2 h4 h5 h6 h8 h9 h10 args decs ret tps tscope bind pos
  simp only [bmDict] at N
  (try dsimp only [List.drop])
  k_steps
  all_goals try omega
  all_goals try (exfalso; (with_reducible rename _ ∈ [_, _, _] => hk0); (simp only [List.mem_cons, List.not_mem_nil, or_false] at hk0); omega)
  refine Stop.mk ?_
  refine' stage_b _ _ _ _ _ _ _ _ _ _ _ _ _ _ _ _ _ _ _ _ _ _ rfl ?B ?X ?T (mulP n0 limit) (mulP n1 limit) (mulP n2 limit) _ _ _ _ _ _ _ _ ?hx0 ?hd0 ?S0 _ _ _ _ _ _ _ _ ?hx1 ?hd1 ?S1 _ _ _ _ _ _ _ _ ?hx2 ?hd2 ?S2 ?ne01 ?ne02 ?ne12 _ _ _ _ _ _ _ _ _ _ _ _ _ ?hlm ?hls ?hld ?hys ?hyd ?q0 ?q1 ?q2 ?q01 ?q02 ?q12 ?q012 ?hm_maps ?hm_singles ?hm_doubles ?hm_triple ?hm_first ?hm_second ?hm_third ?F (news_cons ?NN (news_cons ?NN (news_cons ?NN ?NN ?hs2) ?hs1) ?hs0) ?hret
  (case B => k_asm)
  (case X => k_asm)
  (case T => k_asm)
  (case F => k_asm)
  (case hm_maps => exact rfl)
  (case hm_singles => exact rfl)
  (case hm_doubles => exact rfl)
  (case hm_triple => exact rfl)
  (case hm_first => exact rfl)
  (case hm_second => exact rfl)
  (case hm_third => exact rfl)
  (case NN => k_asm)
  (case hx0 => k_mem)
  (case hd0 => k_mem)
  (case hx1 => k_mem)
  (case hd1 => k_mem)
  (case hx2 => k_mem)
  (case hd2 => k_mem)
  (case hlm => k_mem)
  (case hls => k_mem)
  (case hld => k_mem)
  (case hys => exact singles_ints (by assumption) h00 h10 h20)
  (case hyd => assumption)
  (case q0 => exact cnt_mulP (by omega) (by omega) hl1)
  (case q1 => exact cnt_mulP (by omega) (by omega) hl1)
  (case q2 => exact cnt_mulP (by omega) (by omega) hl1)
  (case q01 => exact cnt_two (by omega) (by omega) (by omega) hl1)
  (case q02 => exact cnt_two (by omega) (by omega) (by omega) hl1)
  (case q12 => exact cnt_two (by omega) (by omega) (by omega) hl1)
  (case q012 => exact cnt_three (by omega) (by omega) (by omega) (by omega) hl1)
  (case hs0 => k_mem)
  (case hs1 => k_mem)
  (case hs2 => k_mem)
  (case S0 => assumption)
  (case S1 => assumption)
  (case S2 => assumption)
  (case ne01 => ((show @Ne Nat _ _); omega))
  (case ne02 => ((show @Ne Nat _ _); omega))
  (case ne12 => ((show @Ne Nat _ _); omega))
  intro h9 tk9 F9 N9
  replace N9 : News _ _ _ _ := fun p hp => N9 p (.tail _ (.tail _ (.tail _ hp)))
  (try dsimp only)
  k_steps
  refine Stop.mk ?_
  refine' stage_c _ _ _ _ _ _ _ _ _ _ _ _ _ _ _ _ _ _ _ _ _ _ rfl ?B_c ?X_c ?T_c (mulP n0 limit) (mulP n1 limit) (mulP n2 limit) (mulP 1 limit) _ _ _ _ _ _ _ _ ?hx0_c ?hd0_c ?S0_c _ _ _ _ _ _ _ _ ?hx1_c ?hd1_c ?S1_c _ _ _ _ _ _ _ _ ?hx2_c ?hd2_c ?S2_c _ _ _ _ _ _ _ _ ?hx3_c ?hd3_c ?S3_c _ _ _ _ _ _ _ _ ?hx4_c ?hd4_c ?S4_c _ _ _ _ _ _ _ _ ?hx5_c ?hd5_c ?S5_c _ _ _ _ _ _ _ _ ?hx6_c ?hd6_c ?S6_c ?ne01_c ?ne02_c ?ne03_c ?ne04_c ?ne05_c ?ne06_c ?ne12_c ?ne13_c ?ne14_c ?ne15_c ?ne16_c ?ne23_c ?ne24_c ?ne25_c ?ne26_c ?ne34_c ?ne35_c ?ne36_c ?ne45_c ?ne46_c ?ne56_c limit hl0 hl1 ol tl ?hol_c e2 _ _ _ _ _ _ _ _ _ _ _ _ _ ?hls_c ?hld_c ?hys_c ?hyd_c ?hm_maps_c ?hm_singles_c ?hm_doubles_c ?hm_triple_c ?hm_first_c ?hm_second_c ?hm_third_c ?hm_some_c ?hm_odd_c ?hm_none_c ?hm_all_places_c ?F_c (news_cons ?NN_c (news_cons ?NN_c (news_cons ?NN_c (news_cons ?NN_c (news_cons ?NN_c (news_cons ?NN_c (news_cons ?NN_c ?NN_c ?hs6_c) ?hs5_c) ?hs4_c) ?hs3_c) ?hs2_c) ?hs1_c) ?hs0_c) ?qs_c ?qn_c ?hret_c
  (case B_c => k_asm)
  (case X_c => k_asm)
  (case T_c => k_asm)
  (case F_c => k_asm)
  (case hm_maps_c => exact rfl)
  (case hm_singles_c => exact rfl)
  (case hm_doubles_c => exact rfl)
  (case hm_triple_c => exact rfl)
  (case hm_first_c => exact rfl)
  (case hm_second_c => exact rfl)
  (case hm_third_c => exact rfl)
  (case hm_some_c => exact rfl)
  (case hm_odd_c => exact rfl)
  (case hm_none_c => exact rfl)
  (case hm_all_places_c => exact rfl)
  (case NN_c => k_asm)
  (case hx0_c => k_mem)
  (case hd0_c => k_mem)
  (case hx1_c => k_mem)
  (case hd1_c => k_mem)
  (case hx2_c => k_mem)
  (case hd2_c => k_mem)
  (case hx3_c => k_mem)
  (case hd3_c => k_mem)
  (case hx4_c => k_mem)
  (case hd4_c => k_mem)
  (case hx5_c => k_mem)
  (case hd5_c => k_mem)
  (case hx6_c => k_mem)
  (case hd6_c => k_mem)
  (case hol_c => k_mem)
  (case hls_c => k_mem)
  (case hld_c => k_mem)
  (case hys_c => exact singles_ints (by assumption) h00 h10 h20)
  (case hyd_c => assumption)
  (case qs_c => exact law_some (by omega) (by omega) (by omega) (by omega) hl1)
  (case qn_c => exact law_none (by omega) hl1)
  (case hs0_c => k_mem)
  (case hs1_c => k_mem)
  (case hs2_c => k_mem)
  (case hs3_c => k_mem)
  (case hs4_c => k_mem)
  (case hs5_c => k_mem)
  (case hs6_c => k_mem)
  (case S0_c => assumption)
  (case S1_c => assumption)
  (case S2_c => assumption)
  (case S3_c => assumption)
  (case S4_c => assumption)
  (case S5_c => assumption)
  (case S6_c => assumption)
  (case ne01_c => ((show @Ne Nat _ _); omega))
  (case ne02_c => ((show @Ne Nat _ _); omega))
  (case ne03_c => ((show @Ne Nat _ _); omega))
  (case ne04_c => ((show @Ne Nat _ _); omega))
  (case ne05_c => ((show @Ne Nat _ _); omega))
  (case ne06_c => ((show @Ne Nat _ _); omega))
  (case ne12_c => ((show @Ne Nat _ _); omega))
  (case ne13_c => ((show @Ne Nat _ _); omega))
  (case ne14_c => ((show @Ne Nat _ _); omega))
  (case ne15_c => ((show @Ne Nat _ _); omega))
  (case ne16_c => ((show @Ne Nat _ _); omega))
  (case ne23_c => ((show @Ne Nat _ _); omega))
  (case ne24_c => ((show @Ne Nat _ _); omega))
  (case ne25_c => ((show @Ne Nat _ _); omega))
  (case ne26_c => ((show @Ne Nat _ _); omega))
  (case ne34_c => ((show @Ne Nat _ _); omega))
  (case ne35_c => ((show @Ne Nat _ _); omega))
  (case ne36_c => ((show @Ne Nat _ _); omega))
  (case ne45_c => ((show @Ne Nat _ _); omega))
  (case ne46_c => ((show @Ne Nat _ _); omega))
  (case ne56_c => ((show @Ne Nat _ _); omega))
  intro h9 tk9 F9 N9
  replace N9 : News _ _ _ _ := fun p hp => N9 p (.tail _ (.tail _ (.tail _ (.tail _ (.tail _ (.tail _ (.tail _ hp)))))))
  (try dsimp only)
  k_steps
  refine Stop.mk ?_
  refine' stage_c2 _ _ _ _ _ _ _ _ _ _ _ _ _ _ _ _ _ _ _ _ _ _ rfl ?B_c2 ?X_c2 ?T_c2 (mulP n0 limit) (mulP n1 limit) (mulP n2 limit) (mulP 1 limit) _ _ _ _ _ _ _ _ ?hx0_c2 ?hd0_c2 ?S0_c2 _ _ _ _ _ _ _ _ ?hx1_c2 ?hd1_c2 ?S1_c2 _ _ _ _ _ _ _ _ ?hx2_c2 ?hd2_c2 ?S2_c2 _ _ _ _ _ _ _ _ ?hx3_c2 ?hd3_c2 ?S3_c2 _ _ _ _ _ _ _ _ ?hx4_c2 ?hd4_c2 ?S4_c2 _ _ _ _ _ _ _ _ ?hx5_c2 ?hd5_c2 ?S5_c2 _ _ _ _ _ _ _ _ ?hx6_c2 ?hd6_c2 ?S6_c2 ?ne01_c2 ?ne02_c2 ?ne03_c2 ?ne04_c2 ?ne05_c2 ?ne06_c2 ?ne12_c2 ?ne13_c2 ?ne14_c2 ?ne15_c2 ?ne16_c2 ?ne23_c2 ?ne24_c2 ?ne25_c2 ?ne26_c2 ?ne34_c2 ?ne35_c2 ?ne36_c2 ?ne45_c2 ?ne46_c2 ?ne56_c2 limit hl0 hl1 ol tl ?hol_c2 e2 _ _ _ _ _ _ _ _ _ _ _ _ _ ?hls_c2 ?hld_c2 ?hys_c2 ?hyd_c2 ?hm_maps_c2 ?hm_singles_c2 ?hm_doubles_c2 ?hm_triple_c2 ?hm_first_c2 ?hm_second_c2 ?hm_third_c2 ?hm_some_c2 ?hm_odd_c2 ?hm_none_c2 ?hm_all_places_c2 ?F_c2 (news_cons ?NN_c2 (news_cons ?NN_c2 (news_cons ?NN_c2 (news_cons ?NN_c2 (news_cons ?NN_c2 (news_cons ?NN_c2 (news_cons ?NN_c2 ?NN_c2 ?hs6_c2) ?hs5_c2) ?hs4_c2) ?hs3_c2) ?hs2_c2) ?hs1_c2) ?hs0_c2) ?qo_c2 ?hret_c2
  (case B_c2 => k_asm)
  (case X_c2 => k_asm)
  (case T_c2 => k_asm)
  (case F_c2 => k_asm)
  (case hm_maps_c2 => exact rfl)
  (case hm_singles_c2 => exact rfl)
  (case hm_doubles_c2 => exact rfl)
  (case hm_triple_c2 => exact rfl)
  (case hm_first_c2 => exact rfl)
  (case hm_second_c2 => exact rfl)
  (case hm_third_c2 => exact rfl)
  (case hm_some_c2 => exact rfl)
  (case hm_odd_c2 => exact rfl)
  (case hm_none_c2 => exact rfl)
  (case hm_all_places_c2 => exact rfl)
  (case NN_c2 => k_asm)
  (case hx0_c2 => k_mem)
  (case hd0_c2 => k_mem)
  (case hx1_c2 => k_mem)
  (case hd1_c2 => k_mem)
  (case hx2_c2 => k_mem)
  (case hd2_c2 => k_mem)
  (case hx3_c2 => k_mem)
  (case hd3_c2 => k_mem)
  (case hx4_c2 => k_mem)
  (case hd4_c2 => k_mem)
  (case hx5_c2 => k_mem)
  (case hd5_c2 => k_mem)
  (case hx6_c2 => k_mem)
  (case hd6_c2 => k_mem)
  (case hol_c2 => k_mem)
  (case hls_c2 => k_mem)
  (case hld_c2 => k_mem)
  (case hys_c2 => exact singles_ints (by assumption) h00 h10 h20)
  (case hyd_c2 => assumption)
  (case qo_c2 => exact law_odd (by omega) (by omega) (by omega) (by omega) hl1)
  (case hs0_c2 => k_mem)
  (case hs1_c2 => k_mem)
  (case hs2_c2 => k_mem)
  (case hs3_c2 => k_mem)
  (case hs4_c2 => k_mem)
  (case hs5_c2 => k_mem)
  (case hs6_c2 => k_mem)
  (case S0_c2 => assumption)
  (case S1_c2 => assumption)
  (case S2_c2 => assumption)
  (case S3_c2 => assumption)
  (case S4_c2 => assumption)
  (case S5_c2 => assumption)
  (case S6_c2 => assumption)
  (case ne01_c2 => ((show @Ne Nat _ _); omega))
  (case ne02_c2 => ((show @Ne Nat _ _); omega))
  (case ne03_c2 => ((show @Ne Nat _ _); omega))
  (case ne04_c2 => ((show @Ne Nat _ _); omega))
  (case ne05_c2 => ((show @Ne Nat _ _); omega))
  (case ne06_c2 => ((show @Ne Nat _ _); omega))
  (case ne12_c2 => ((show @Ne Nat _ _); omega))
  (case ne13_c2 => ((show @Ne Nat _ _); omega))
  (case ne14_c2 => ((show @Ne Nat _ _); omega))
  (case ne15_c2 => ((show @Ne Nat _ _); omega))
  (case ne16_c2 => ((show @Ne Nat _ _); omega))
  (case ne23_c2 => ((show @Ne Nat _ _); omega))
  (case ne24_c2 => ((show @Ne Nat _ _); omega))
  (case ne25_c2 => ((show @Ne Nat _ _); omega))
  (case ne26_c2 => ((show @Ne Nat _ _); omega))
  (case ne34_c2 => ((show @Ne Nat _ _); omega))
  (case ne35_c2 => ((show @Ne Nat _ _); omega))
  (case ne36_c2 => ((show @Ne Nat _ _); omega))
  (case ne45_c2 => ((show @Ne Nat _ _); omega))
  (case ne46_c2 => ((show @Ne Nat _ _); omega))
  (case ne56_c2 => ((show @Ne Nat _ _); omega))
  intro h9 tk9 F9 N9
  replace N9 : News _ _ _ _ := fun p hp => N9 p (.tail _ (.tail _ (.tail _ (.tail _ (.tail _ (.tail _ (.tail _ hp)))))))
  (try dsimp only)
  k_steps
  refine Stop.mk ?_
  refine' stage_d _ _ _ _ _ _ _ _ _ _ _ _ _ _ _ _ _ _ _ _ _ _ rfl ?B_d ?X_d ?T_d (mulP n0 limit) (mulP n1 limit) (mulP n2 limit) (mulP 1 limit) _ _ _ _ _ _ _ _ ?hx0_d ?hd0_d ?S0_d _ _ _ _ _ _ _ _ ?hx1_d ?hd1_d ?S1_d _ _ _ _ _ _ _ _ ?hx2_d ?hd2_d ?S2_d _ _ _ _ _ _ _ _ ?hx3_d ?hd3_d ?S3_d _ _ _ _ _ _ _ _ ?hx4_d ?hd4_d ?S4_d _ _ _ _ _ _ _ _ ?hx5_d ?hd5_d ?S5_d _ _ _ _ _ _ _ _ ?hx6_d ?hd6_d ?S6_d ?ne01_d ?ne02_d ?ne03_d ?ne04_d ?ne05_d ?ne06_d ?ne12_d ?ne13_d ?ne14_d ?ne15_d ?ne16_d ?ne23_d ?ne24_d ?ne25_d ?ne26_d ?ne34_d ?ne35_d ?ne36_d ?ne45_d ?ne46_d ?ne56_d limit hl0 hl1 ol tl ?hol_d e2 _ _ _ _ _ _ _ _ _ _ _ _ _ ?hls_d ?hld_d ?hys_d ?hyd_d ?hm_maps_d ?hm_singles_d ?hm_doubles_d ?hm_triple_d ?hm_first_d ?hm_second_d ?hm_third_d ?hm_some_d ?hm_odd_d ?hm_none_d ?hm_all_places_d ?F_d (news_cons ?NN_d (news_cons ?NN_d (news_cons ?NN_d (news_cons ?NN_d (news_cons ?NN_d (news_cons ?NN_d (news_cons ?NN_d ?NN_d ?hs6_d) ?hs5_d) ?hs4_d) ?hs3_d) ?hs2_d) ?hs1_d) ?hs0_d) ?hpa_d ?hret_d
  (case B_d => k_asm)
  (case X_d => k_asm)
  (case T_d => k_asm)
  (case F_d => k_asm)
  (case hm_maps_d => exact rfl)
  (case hm_singles_d => exact rfl)
  (case hm_doubles_d => exact rfl)
  (case hm_triple_d => exact rfl)
  (case hm_first_d => exact rfl)
  (case hm_second_d => exact rfl)
  (case hm_third_d => exact rfl)
  (case hm_some_d => exact rfl)
  (case hm_odd_d => exact rfl)
  (case hm_none_d => exact rfl)
  (case hm_all_places_d => exact rfl)
  (case NN_d => k_asm)
  (case hx0_d => k_mem)
  (case hd0_d => k_mem)
  (case hx1_d => k_mem)
  (case hd1_d => k_mem)
  (case hx2_d => k_mem)
  (case hd2_d => k_mem)
  (case hx3_d => k_mem)
  (case hd3_d => k_mem)
  (case hx4_d => k_mem)
  (case hd4_d => k_mem)
  (case hx5_d => k_mem)
  (case hd5_d => k_mem)
  (case hx6_d => k_mem)
  (case hd6_d => k_mem)
  (case hol_d => k_mem)
  (case hls_d => k_mem)
  (case hld_d => k_mem)
  (case hys_d => exact singles_ints (by assumption) h00 h10 h20)
  (case hyd_d => assumption)
  (case hpa_d => exact mulP_all)
  (case hs0_d => k_mem)
  (case hs1_d => k_mem)
  (case hs2_d => k_mem)
  (case hs3_d => k_mem)
  (case hs4_d => k_mem)
  (case hs5_d => k_mem)
  (case hs6_d => k_mem)
  (case S0_d => assumption)
  (case S1_d => assumption)
  (case S2_d => assumption)
  (case S3_d => assumption)
  (case S4_d => assumption)
  (case S5_d => assumption)
  (case S6_d => assumption)
  (case ne01_d => ((show @Ne Nat _ _); omega))
  (case ne02_d => ((show @Ne Nat _ _); omega))
  (case ne03_d => ((show @Ne Nat _ _); omega))
  (case ne04_d => ((show @Ne Nat _ _); omega))
  (case ne05_d => ((show @Ne Nat _ _); omega))
  (case ne06_d => ((show @Ne Nat _ _); omega))
  (case ne12_d => ((show @Ne Nat _ _); omega))
  (case ne13_d => ((show @Ne Nat _ _); omega))
  (case ne14_d => ((show @Ne Nat _ _); omega))
  (case ne15_d => ((show @Ne Nat _ _); omega))
  (case ne16_d => ((show @Ne Nat _ _); omega))
  (case ne23_d => ((show @Ne Nat _ _); omega))
  (case ne24_d => ((show @Ne Nat _ _); omega))
  (case ne25_d => ((show @Ne Nat _ _); omega))
  (case ne26_d => ((show @Ne Nat _ _); omega))
  (case ne34_d => ((show @Ne Nat _ _); omega))
  (case ne35_d => ((show @Ne Nat _ _); omega))
  (case ne36_d => ((show @Ne Nat _ _); omega))
  (case ne45_d => ((show @Ne Nat _ _); omega))
  (case ne46_d => ((show @Ne Nat _ _); omega))
  (case ne56_d => ((show @Ne Nat _ _); omega))
  intro h9 tk9 F9 N9
  replace N9 : News _ _ _ _ := fun p hp => N9 p (.tail _ (.tail _ (.tail _ (.tail _ (.tail _ (.tail _ (.tail _ hp)))))))
  (try dsimp only)
  k_steps
  refine Stop.mk ?_
  refine' stage_e _ _ _ _ _ _ _ _ _ _ _ _ _ _ _ _ _ _ _ _ _ _ rfl ?B_e ?X_e ?T_e (mulP n0 limit) (mulP n1 limit) (mulP n2 limit) (mulP 1 limit) _ _ _ _ _ _ _ _ ?hx0_e ?hd0_e ?S0_e _ _ _ _ _ _ _ _ ?hx1_e ?hd1_e ?S1_e _ _ _ _ _ _ _ _ ?hx2_e ?hd2_e ?S2_e _ _ _ _ _ _ _ _ ?hx3_e ?hd3_e ?S3_e _ _ _ _ _ _ _ _ ?hx4_e ?hd4_e ?S4_e _ _ _ _ _ _ _ _ ?hx5_e ?hd5_e ?S5_e _ _ _ _ _ _ _ _ ?hx6_e ?hd6_e ?S6_e ?ne01_e ?ne02_e ?ne03_e ?ne04_e ?ne05_e ?ne06_e ?ne12_e ?ne13_e ?ne14_e ?ne15_e ?ne16_e ?ne23_e ?ne24_e ?ne25_e ?ne26_e ?ne34_e ?ne35_e ?ne36_e ?ne45_e ?ne46_e ?ne56_e limit hl0 hl1 ol tl ?hol_e e2 _ _ _ _ _ _ _ _ _ _ _ _ _ ?hls_e ?hld_e ?hys_e ?hyd_e ?hm_maps_e ?hm_singles_e ?hm_doubles_e ?hm_triple_e ?hm_first_e ?hm_second_e ?hm_third_e ?hm_some_e ?hm_odd_e ?hm_none_e ?hm_all_places_e ?F_e (news_cons ?NN_e (news_cons ?NN_e (news_cons ?NN_e (news_cons ?NN_e (news_cons ?NN_e (news_cons ?NN_e (news_cons ?NN_e ?NN_e ?hs6_e) ?hs5_e) ?hs4_e) ?hs3_e) ?hs2_e) ?hs1_e) ?hs0_e) ?hpa_e ?hret_e
  (case B_e => k_asm)
  (case X_e => k_asm)
  (case T_e => k_asm)
  (case F_e => k_asm)
  (case hm_maps_e => exact rfl)
  (case hm_singles_e => exact rfl)
  (case hm_doubles_e => exact rfl)
  (case hm_triple_e => exact rfl)
  (case hm_first_e => exact rfl)
  (case hm_second_e => exact rfl)
  (case hm_third_e => exact rfl)
  (case hm_some_e => exact rfl)
  (case hm_odd_e => exact rfl)
  (case hm_none_e => exact rfl)
  (case hm_all_places_e => exact rfl)
  (case NN_e => k_asm)
  (case hx0_e => k_mem)
  (case hd0_e => k_mem)
  (case hx1_e => k_mem)
  (case hd1_e => k_mem)
  (case hx2_e => k_mem)
  (case hd2_e => k_mem)
  (case hx3_e => k_mem)
  (case hd3_e => k_mem)
  (case hx4_e => k_mem)
  (case hd4_e => k_mem)
  (case hx5_e => k_mem)
  (case hd5_e => k_mem)
  (case hx6_e => k_mem)
  (case hd6_e => k_mem)
  (case hol_e => k_mem)
  (case hls_e => k_mem)
  (case hld_e => k_mem)
  (case hys_e => exact singles_ints (by assumption) h00 h10 h20)
  (case hyd_e => assumption)
  (case hpa_e => exact mulP_all)
  (case hs0_e => k_mem)
  (case hs1_e => k_mem)
  (case hs2_e => k_mem)
  (case hs3_e => k_mem)
  (case hs4_e => k_mem)
  (case hs5_e => k_mem)
  (case hs6_e => k_mem)
  (case S0_e => assumption)
  (case S1_e => assumption)
  (case S2_e => assumption)
  (case S3_e => assumption)
  (case S4_e => assumption)
  (case S5_e => assumption)
  (case S6_e => assumption)
  (case ne01_e => ((show @Ne Nat _ _); omega))
  (case ne02_e => ((show @Ne Nat _ _); omega))
  (case ne03_e => ((show @Ne Nat _ _); omega))
  (case ne04_e => ((show @Ne Nat _ _); omega))
  (case ne05_e => ((show @Ne Nat _ _); omega))
  (case ne06_e => ((show @Ne Nat _ _); omega))
  (case ne12_e => ((show @Ne Nat _ _); omega))
  (case ne13_e => ((show @Ne Nat _ _); omega))
  (case ne14_e => ((show @Ne Nat _ _); omega))
  (case ne15_e => ((show @Ne Nat _ _); omega))
  (case ne16_e => ((show @Ne Nat _ _); omega))
  (case ne23_e => ((show @Ne Nat _ _); omega))
  (case ne24_e => ((show @Ne Nat _ _); omega))
  (case ne25_e => ((show @Ne Nat _ _); omega))
  (case ne26_e => ((show @Ne Nat _ _); omega))
  (case ne34_e => ((show @Ne Nat _ _); omega))
  (case ne35_e => ((show @Ne Nat _ _); omega))
  (case ne36_e => ((show @Ne Nat _ _); omega))
  (case ne45_e => ((show @Ne Nat _ _); omega))
  (case ne46_e => ((show @Ne Nat _ _); omega))
  (case ne56_e => ((show @Ne Nat _ _); omega))
  intro h9 tk9 F9
  exact hret _ _ _ F9
end Mine
end
section
open PySem PySem.W PyProof.Rows
set_option maxRecDepth 100000
set_option maxHeartbeats 8000000
namespace Mine
local macro_rules | `(tactic| walk_at "pad 0") => `(tactic| skip)
local macro_rules | `(tactic| walk_at "pad 1") => `(tactic| skip)
local macro_rules | `(tactic| walk_at "pad 2") => `(tactic| skip)
local macro_rules | `(tactic| walk_at "pad 3") => `(tactic| skip)
local macro_rules | `(tactic| walk_at "pad 4") => `(tactic| skip)
local macro_rules | `(tactic| walk_at "pad 5") => `(tactic| skip)
local macro_rules | `(tactic| walk_at "pad 6") => `(tactic| skip)
local macro_rules | `(tactic| walk_at "pad 7") => `(tactic| skip)
local macro_rules | `(tactic| walk_at "pad 8") => `(tactic| skip)
local macro_rules | `(tactic| walk_at "pad 9") => `(tactic| skip)
local macro_rules | `(tactic| walk_at "pad 10") => `(tactic| skip)
local macro_rules | `(tactic| walk_at "pad 11") => `(tactic| skip)
local macro_rules | `(tactic| walk_at "pad 12") => `(tactic| skip)
local macro_rules | `(tactic| walk_at "pad 13") => `(tactic| skip)
local macro_rules | `(tactic| walk_at "pad 14") => `(tactic| skip)
local macro_rules | `(tactic| walk_at "pad 15") => `(tactic| skip)
local macro_rules | `(tactic| walk_at "pad 16") => `(tactic| skip)
local macro_rules | `(tactic| walk_at "pad 17") => `(tactic| skip)
local macro_rules | `(tactic| walk_at "call ref") => `(tactic| (k_here; (with_reducible show wpAny _ _ (call (Value.ref 184) _ _) _ _ _); (k_dflt (refine' bm_at _ _ _ _ _ _ _ _ _ _ _ _ _ _ _ _ _ _ _ _ _ _ ?kB ?kF ?kX ?kN ?kT ?kk ?kd ?ku _ _ _ ?kl ?ki ?kln _ _ _ _ ?k0 ?k1 ?_; (case kB => k_asm); (case kF => k_asm); (case kX => k_asm); (case kN => k_asm); (case kT => k_asm); (case kk => first | exact rfl | assumption); (case kd => ktr_room); (case ku => ktr_units); (case kl => k_asm); (case ki => k_asm); (case kln => omega); (case k0 => omega); (case k1 => omega); k_whole)); intro t' h' tk' F' N'))
local macro_rules | `(tactic| walk_at "call ref") => `(tactic| (k_here; (with_reducible show wpAny _ _ (call (Value.ref 173) _ _) _ _ _); (k_dflt (refine' bm_new _ _ _ _ _ _ _ _ _ _ _ _ _ _ _ _ _ _ _ _ _ _ ?kB ?kF ?kX ?kN ?kT ?kk ?kd ?ku  ?_; (case kB => k_asm); (case kF => k_asm); (case kX => k_asm); (case kN => k_asm); (case kT => k_asm); (case kk => first | exact rfl | assumption); (case kd => ktr_room); (case ku => ktr_units);  k_whole)); intro x' d' a' o' t1' t2' t3' h' tk' F' N' l1 l2 l3 hs'; (try simp only [AllLt, and_true] at l1); (try dsimp only [bmDict] at N')))
local macro_rules | `(tactic| walk_at "call ref") => `(tactic| (k_here; (with_reducible show wpAny _ _ (call (Value.ref 191) _ _) _ _ _); (k_dflt (refine' bm_multiple _ _ _ _ _ _ _ _ _ _ _ _ _ _ _ _ _ _ _ _ _ _ ?kB ?kF ?kX ?kN ?kT ?kk ?kd ?ku _ _ _ ?kl ?ki _ _ _ _ ?k0 ?k1 ?k2 ?k3 ?_; (case kB => k_asm); (case kF => k_asm); (case kX => k_asm); (case kN => k_asm); (case kT => k_asm); (case kk => first | exact rfl | assumption); (case kd => ktr_room); (case ku => ktr_units); (case kl => k_asm); (case ki => k_asm); (case k0 => omega); (case k1 => omega); (case k2 => omega); (case k3 => omega); k_whole)); intro t' h' tk' F' N'))
local macro_rules | `(tactic| walk_at "binaryOp BitOr") => `(tactic| (k_here; (with_reducible show wpAny _ _ (binaryOp Operator.BitOr (Value.ref _) (Value.ref _)) _ _ _); (k_dflt (refine' bm_or _ _ _ _ _ _ _ _ _ _ _ _ _ _ _ _ _ _ _ _ _ _ ?kB ?kF ?kX ?kN ?kT ?kk ?kd ?ku _ _ _ _ _ _ _ _ _ _ _ _ _ _ _ _ _ _ _ _ ?m1 ?m2 ?m3 ?m4 ?m5 ?m6 ?s1 ?s2 ?ne ?_; (case kB => k_asm); (case kF => k_asm); (case kX => k_asm); (case kN => k_asm); (case kT => k_asm); (case kk => first | exact rfl | assumption); (case kd => ktr_room); (case ku => ktr_units); (case m1 => k_mem); (case m2 => k_mem); (case m3 => k_mem); (case m4 => k_mem); (case m5 => k_mem); (case m6 => k_mem); (case s1 => assumption); (case s2 => assumption); (case ne => ((show @Ne Nat _ _); omega)); k_whole)); intro x' d' a' o' c' t1' t2' t3' h' tk' F' N' l1 l2 l3 hs'; (try simp only [AllLt, and_true] at l1); (try dsimp only [bmDict] at N')))
local macro_rules | `(tactic| walk_at "binaryOp BitAnd") => `(tactic| (k_here; (with_reducible show wpAny _ _ (binaryOp Operator.BitAnd (Value.ref _) (Value.ref _)) _ _ _); (k_dflt (refine' bm_and _ _ _ _ _ _ _ _ _ _ _ _ _ _ _ _ _ _ _ _ _ _ ?kB ?kF ?kX ?kN ?kT ?kk ?kd ?ku _ _ _ _ _ _ _ _ _ _ _ _ _ _ _ _ _ _ _ _ ?m1 ?m2 ?m3 ?m4 ?m5 ?m6 ?s1 ?s2 ?ne ?_; (case kB => k_asm); (case kF => k_asm); (case kX => k_asm); (case kN => k_asm); (case kT => k_asm); (case kk => first | exact rfl | assumption); (case kd => ktr_room); (case ku => ktr_units); (case m1 => k_mem); (case m2 => k_mem); (case m3 => k_mem); (case m4 => k_mem); (case m5 => k_mem); (case m6 => k_mem); (case s1 => assumption); (case s2 => assumption); (case ne => ((show @Ne Nat _ _); omega)); k_whole)); intro x' d' a' o' c' t1' t2' t3' h' tk' F' N' l1 l2 l3 hs'; (try simp only [AllLt, and_true] at l1); (try dsimp only [bmDict] at N')))
local macro_rules | `(tactic| walk_at "binaryOp BitXor") => `(tactic| (k_here; (with_reducible show wpAny _ _ (binaryOp Operator.BitXor (Value.ref _) (Value.ref _)) _ _ _); (k_dflt (refine' bm_xor _ _ _ _ _ _ _ _ _ _ _ _ _ _ _ _ _ _ _ _ _ _ ?kB ?kF ?kX ?kN ?kT ?kk ?kd ?ku _ _ _ _ _ _ _ _ _ _ _ _ _ _ _ _ _ _ _ _ ?m1 ?m2 ?m3 ?m4 ?m5 ?m6 ?s1 ?s2 ?_; (case kB => k_asm); (case kF => k_asm); (case kX => k_asm); (case kN => k_asm); (case kT => k_asm); (case kk => first | exact rfl | assumption); (case kd => ktr_room); (case ku => ktr_units); (case m1 => k_mem); (case m2 => k_mem); (case m3 => k_mem); (case m4 => k_mem); (case m5 => k_mem); (case m6 => k_mem); (case s1 => assumption); (case s2 => assumption); k_whole)); intro x' d' a' o' c' t1' t2' t3' h' tk' F' N' l1 l2 l3 hs'; (try simp only [AllLt, and_true] at l1); (try dsimp only [bmDict] at N')))
local macro_rules | `(tactic| walk_at "binaryOp Sub") => `(tactic| (k_here; (with_reducible show wpAny _ _ (binaryOp Operator.Sub (Value.ref _) (Value.ref _)) _ _ _); (k_dflt (refine' bm_sub _ _ _ _ _ _ _ _ _ _ _ _ _ _ _ _ _ _ _ _ _ _ ?kB ?kF ?kX ?kN ?kT ?kk ?kd ?ku _ _ _ _ _ _ _ _ _ _ _ _ _ _ _ _ _ _ _ _ ?m1 ?m2 ?m3 ?m4 ?m5 ?m6 ?s1 ?s2 ?_; (case kB => k_asm); (case kF => k_asm); (case kX => k_asm); (case kN => k_asm); (case kT => k_asm); (case kk => first | exact rfl | assumption); (case kd => ktr_room); (case ku => ktr_units); (case m1 => k_mem); (case m2 => k_mem); (case m3 => k_mem); (case m4 => k_mem); (case m5 => k_mem); (case m6 => k_mem); (case s1 => assumption); (case s2 => assumption); k_whole)); intro x' d' a' o' c' t1' t2' t3' h' tk' F' N' l1 l2 l3 hs'; (try simp only [AllLt, and_true] at l1); (try dsimp only [bmDict] at N')))
local macro_rules | `(tactic| walk_at "call builtin:len") => `(tactic| (k_here; (with_reducible show wpAny _ _ (call (Value.builtin "len") [Value.ref _] _) _ _ _); (k_dflt (refine' bm_len _ _ _ _ _ _ _ _ _ _ _ _ _ _ _ _ _ _ _ _ _ _ ?kB ?kF ?kX ?kN ?kT ?kk ?kd ?ku _ _ _ _ _ _ _ _ _ _ ?m1 ?m2 ?m3 ?s1 ?_; (case kB => k_asm); (case kF => k_asm); (case kX => k_asm); (case kN => k_asm); (case kT => k_asm); (case kk => first | exact rfl | assumption); (case kd => ktr_room); (case ku => ktr_units); (case m1 => k_mem); (case m2 => k_mem); (case m3 => k_mem); (case s1 => assumption); k_whole)); intro t' h' tk' F' N'))
local macro_rules | `(tactic| walk_at "call ref") => `(tactic| (k_here; (with_reducible show wpAny _ _ (call (Value.ref 196) _ _) _ _ _); (k_dflt (refine' bm_same _ _ _ _ _ _ _ _ _ _ _ _ _ _ _ _ _ _ _ _ _ _ ?kB ?kF ?kX ?kN ?kT ?kk ?kd ?ku _ _ _ _ _ _ _ _ _ _ _ _ _ _ _ _ _ _ _ _ _ _ ?m1 ?m2 ?m3 ?m4 ?m5 ?m6 ?s1 ?s2 ?l0 ?l1 ?eq ?_; (case kB => k_asm); (case kF => k_asm); (case kX => k_asm); (case kN => k_asm); (case kT => k_asm); (case kk => first | exact rfl | assumption); (case kd => ktr_room); (case ku => ktr_units); (case m1 => k_mem); (case m2 => k_mem); (case m3 => k_mem); (case m4 => k_mem); (case m5 => k_mem); (case m6 => k_mem); (case s1 => assumption); (case s2 => assumption); (case l0 => omega); (case l1 => omega); (case eq => walk_at "same_eq"); k_whole)); intro h' tk' F' N'))
local macro_rules | `(tactic| walk_at "call ref") => `(tactic| (k_here; (with_reducible show wpAny _ _ (call (Value.ref 121) _ _) _ _ _); (k_dflt (refine' bm_encode _ _ _ _ _ _ _ _ _ _ _ _ _ _ _ _ _ _ _ _ _ _ _ _ ?kB ?kF ?kX ?kN ?kT ?kk ?kd ?ku _ _ _ _ _ _ _ _ ?m1 ?m2 ?of ?s1 ?n0 ?n1 ?l0 ?l1 ?_; (case kB => k_asm); (case kF => k_asm); (case kX => k_asm); (case kN => k_asm); (case kT => k_asm); (case kk => first | exact rfl | assumption); (case kd => ktr_room); (case ku => ktr_units); (case m1 => k_mem); (case m2 => k_mem); (case of => (simp only [AllLt, and_true]; omega)); (case s1 => assumption); (case n0 => omega); (case n1 => omega); (case l0 => omega); (case l1 => omega); k_whole)); intro D' t' h' tk' F' N' hD'))
local macro_rules | `(tactic| walk_at "call ref") => `(tactic| (k_here; (with_reducible show wpAny _ _ (call (Value.ref 173) _ _) _ _ _); (k_dflt (refine' bm_decode _ _ _ _ _ _ _ _ _ _ _ _ _ _ _ _ _ _ _ _ _ _ ?kB ?kF ?kX ?kN ?kT ?kk ?kd ?ku _ _ _ ?hD ?hP ?_; (case kB => k_asm); (case kF => k_asm); (case kX => k_asm); (case kN => k_asm); (case kT => k_asm); (case kk => first | exact rfl | assumption); (case kd => ktr_room); (case ku => ktr_units); (case hD => assumption); (case hP => exact mulP_small (by omega)); k_whole)); intro x' d' a' o' t1' t2' t3' c' h' tk' F' N' l1 l2 l3 hs'; (try simp only [AllLt, and_true] at l1); (try dsimp only [bmDict] at N')))
local macro_rules | `(tactic| walk_at "getMethod ref") => `(tactic| (k_here; (with_reducible show wpAny _ _ (getMethod (Value.ref _) (Str.ofString "add") _) _ _ _); k_dflt (refine' set_method ?N ?a ?A ?_; (case N => k_asm); (case a => k_mem); (case A => assumption); k_whole)))
local macro_rules | `(tactic| walk_at "call builtin:set.add") => `(tactic| (k_here; (with_reducible show wpAny _ _ (call (Value.builtin "set.add") [Value.ref _, Value.int _ _]) _ _ _); k_dflt (refine' set_add ?F ?N ?U ?d ?b0 ?b1 ?_; (case F => k_asm); (case N => k_asm); (case U => k_updF); (case d => assumption); (case b0 => omega); (case b1 => omega); k_whole); intro h' o' F' N' hs'; (try dsimp only at N')))
theorem join_new {w : World} {h₀ : Heap} {L : Addr} {m : Str → Option Value} {rest : Ledger} {P : Int → Bool} {s₁ : Shared} {bx dx sa bx0 dx0 : Addr} {so o1 o2 : Obj} {c : Int} {t1 t2 t3 : Tok} {h' : Heap} {tk' : Nat}
    (F : Fr h₀ L h' (fun y => if y = Str.ofString "one" then some (.ref bx) else m y)) (N : News h₀ L h' ((sa, so) :: (bx, instObj 173 dx) :: (dx, bmDict w t1 t2 sa c t3) :: (bx0, o1) :: (dx0, o2) :: rest))
    (l1 : AllLt dx ((bx0, o1) :: (dx0, o2) :: rest)) (l2 : @LT.lt Nat _ dx bx) (l3 : @LT.lt Nat _ bx sa) (S : SetS true (ledOf w) so P) :
    JoinEnd w h₀ L m rest P s₁ .next { s₁ with heap := h', toks := tk' } :=
  ⟨rfl, bx, dx, sa, so, c, t1, t2, t3, h', tk', rfl, F, fun p hp => N p (by
    rcases List.mem_cons.mp hp with rfl | hp
    · exact .head _
    · rcases List.mem_cons.mp hp with rfl | hp
      · exact .tail _ (.head _)
      · rcases List.mem_cons.mp hp with rfl | hp
        · exact .tail _ (.tail _ (.head _))
        · exact .tail _ (.tail _ (.tail _ (.tail _ (.tail _ hp))))), l1.2.2, l2, l3, S⟩
local macro_rules | `(tactic| walk_at "pyIter ref") => `(tactic| ((with_reducible show wpAny _ _ (pyIter _) (fun it s₂ => LoopAtV _ _ _ _ _ (Str.ofString "place") _ _ _ it s₂) _ _); (k_dflt (refine' iter_add ?hh ?hr ?n0 ?n1 ?l0 ?l1 ?F ?N ?S ?_ ?_; (case hh => exact rfl); (case hr => k_asm); (case F => k_asm); (case N => k_asm); (case S => assumption); (case n0 => omega); (case n1 => omega); (case l0 => omega); (case l1 => omega))); (intro k t P so c t3 h tk own hk0 hk1 hown hS F' N'); (simp only [List.cons_append, List.nil_append] at N'); rotate_left; (intro u so c t3 h tk hS F' N'); (try dsimp only); rotate_left))
local macro_rules | `(tactic| walk_at "AddEnd") => `(tactic| exact AddEnd.intro (by assumption) (by assumption) (by assumption))
local macro_rules | `(tactic| walk_at "exec If") => `(tactic| ((with_reducible show wpAny _ _ (exec (Stmt.If _ [Stmt.Assign _ _ _] [] _) _) _ _ _); (fail_if_success (with_reducible show wpAny _ _ _ (JoinEnd _ _ _ _ _ _ _) _ _)); (k_dflt (refine' if_join ?F ?N ?S ?_ ?_; (case F => k_asm); (case N => k_asm); (case S => assumption))); rotate_left; (intro bx dx sa so c t1 t2 t3 h' tk' F' N' l1 l2 l3 hS); (simp only [AllLt, and_true] at l1); (try dsimp only [bmDict] at N'); (try dsimp only); rotate_left))
local macro_rules | `(tactic| walk_at "JoinEnd") => `(tactic| (first | (refine JoinEnd.old (by assumption) rfl (by assumption) ?_ (by assumption) (by assumption) (by assumption); (simp only [AllLt, and_true]; omega)) | (refine join_new (by assumption) (by assumption) ?_ (by assumption) (by assumption) (by assumption); (simp only [AllLt, and_true]; omega))))
local macro_rules | `(tactic| walk_at "exec For Tuple Call cons nil") => `(tactic| (k_here; (rename Fr _ _ _ _ => lF'); (with_unfolding_all refine' For_turns lF' ?_; k_whole)))
theorem tail_join (w : World) (mean : ExcName → Option Value) (mg mb : Str → Option Value) (fa : Addr) (cd : Value) (h₀ : Heap) (s : Shared) (Q : Flow → Shared → Prop) (E : Value → Shared → Prop)
    (nm : Str) (args : Arguments) (body : List Stmt) (decs : List Expr) (ret : Option Expr) (tps : List TypeParam) (scope : Scope) (tscope : Option Scope) (bind : Str) (pos : Pos)
    (hlaw : Challenge.pw_bh0020_01.main.body.getLast? = some (Stmt.FunctionDef nm args body decs ret tps scope tscope bind pos))
    (limit n0 n1 n2 : Int) (tl tn0 tn1 tn2 : Tok) (hl0 : 0 < limit) (hl1 : limit ≤ 150) (h00 : 2 ≤ n0) (h01 : n0 ≤ 141) (h10 : 2 ≤ n1) (h11 : n1 ≤ 141) (h20 : 2 ≤ n2) (h21 : n2 ≤ 141)
    (lm xa da sa x0 d0 s0 x1 d1 s1 x2 d2 s2 ln : Addr) (soa so0 so1 so2 on ol os : Obj) (ca c0 c1 c2 : Int) (ta1 ta2 ta3 t01 t02 t03 t11 t12 t13 t21 t22 t23 : Tok) (sv : Option Value)
    (l0 : Addr) (vs : List Value) (ns : List Int) (hl : h₀.IsList l0 vs.toArray) (hi : IntsAre vs ns)
    (B : Below callerA h₀ [] h₀) (X : (Mine.hd.heap_39 w.params).In h₀) (T : Top Mine.hd.view_39 (looseW Mine.hd.view_39 [Str.ofString "struct", Str.ofString "BytesIO"]) mean mg mb h₀)
    (m : Str → Option Value) (hm1 : m (Str.ofString "maps") = some (.ref lm)) (hm2 : m (Str.ofString "all_places") = some (.ref xa)) (F : Fr h₀ h₀.objs.size s.heap m) (news : Ledger) (N : News h₀ h₀.objs.size s.heap news)
    (g0 : (s2, so2) ∈ news) (g1 : (x2, instObj 173 d2) ∈ news) (g2 : (d2, bmDict w t21 t22 s2 c2 t23) ∈ news) (g3 : (s1, so1) ∈ news) (g4 : (x1, instObj 173 d1) ∈ news) (g5 : (d1, bmDict w t11 t12 s1 c1 t13) ∈ news) (g6 : (s0, so0) ∈ news) (g7 : (x0, instObj 173 d0) ∈ news) (g8 : (d0, bmDict w t01 t02 s0 c0 t03) ∈ news) (g9 : (lm, W.listOf (((#[].push (Value.ref x0)).push (Value.ref x1)).push (Value.ref x2)) (0 + 1 + 1 + 1)) ∈ news) (g10 : (sa, soa) ∈ news) (g11 : (xa, instObj 173 da) ∈ news) (g12 : (da, bmDict w ta1 ta2 sa ca ta3) ∈ news) (g13 : (ln, LCg.lst [Value.int n0 tn0, Value.int n1 tn1, Value.int n2 tn2]) ∈ news) (g14 : (h₀.objs.size + 1 + 1 + 1, on) ∈ news) (g15 : (h₀.objs.size + 1 + 1, ol) ∈ news) (g16 : (h₀.objs.size + 1, os) ∈ news)
    (o1 : @LT.lt Nat _ (h₀.objs.size + 1 + 1 + 1) da) (of : @Ne Nat (h₀.objs.size + 1 + 1 + 1) ln) (og : @Ne Nat (h₀.objs.size + 1 + 1) ln) (oh : @Ne Nat (h₀.objs.size + 1) ln) (o2 : @LT.lt Nat _ ln da) (o3 : @LT.lt Nat _ da xa) (o4 : @LT.lt Nat _ xa sa) (o5 : @LT.lt Nat _ sa lm) (o6 : @LT.lt Nat _ lm d0) (o7 : @LT.lt Nat _ d0 x0) (o8 : @LT.lt Nat _ x0 s0)
    (o9 : @LT.lt Nat _ s0 d1) (oa : @LT.lt Nat _ d1 x1) (ob : @LT.lt Nat _ x1 s1) (oc : @LT.lt Nat _ s1 d2) (od : @LT.lt Nat _ d2 x2) (oe : @LT.lt Nat _ x2 s2)
    (e1 : on.data = Data.cell (some (.ref ln))) (e2 : ol.data = Data.cell (some (.int limit tl))) (e3 : os.data = Data.cell sv)
    (Sa : SetS true (ledOf w) soa (mulP 1 limit)) (S0 : SetS true (ledOf w) so0 (mulP n0 limit)) (S1 : SetS true (ledOf w) so1 (mulP n1 limit)) (S2 : SetS true (ledOf w) so2 (mulP n2 limit))
    (hret : ∀ (h' : Heap) (tk' : Nat) (m' : Str → Option Value), Fr h₀ h₀.objs.size h' m' → Q (.ret (.bool true)) { s with heap := h', toks := tk' }) :
    wpAny (model Challenge.rw_bh0020_01.row.prog w) (callerA.deeper (envOfC nm scope h₀.objs.size fa cd)) (execs (body.drop 6) (envOfC nm scope h₀.objs.size fa cd)) Q E s :=
  tail_walk w mean mg mb fa cd h₀ s Q E m nm args body decs ret tps scope tscope bind pos hlaw limit n0 n1 n2 tl tn0 tn1 tn2 hl0 hl1 h00 h01 h10 h11 h20 h21 lm xa da sa x0 d0 s0 x1 d1 s1 x2 d2 s2 ln soa so0 so1 so2 on ol os ca c0 c1 c2 ta1 ta2 ta3 t01 t02 t03 t11 t12 t13 t21 t22 t23 sv l0 vs ns hl hi B X T (by rw [← fr_cons hm1 (fr_cons hm2 rfl)]; exact F) (news_cons N (news_cons N (news_cons N (news_cons N (news_cons N (news_cons N (news_cons N (news_cons N (news_cons N (news_cons N (news_cons N (news_cons N (news_cons N (news_cons N (news_cons N (news_cons N (news_cons N (fun p hp => nomatch hp) g16) g15) g14) g13) g12) g11) g10) g9) g8) g7) g6) g5) g4) g3) g2) g1) g0) o1 of og oh o2 o3 o4 o5 o6 o7 o8 o9 oa ob oc od oe e1 e2 e3 Sa S0 S1 S2 hret
theorem fm_bd (x : Int) : 0 ≤ x.fmod 150 ∧ x.fmod 150 < 150 := by
  rw [Int.fmod_eq_emod_of_nonneg _ (by decide)]
  exact ⟨Int.emod_nonneg _ (by decide), Int.emod_lt_of_pos _ (by decide)⟩
theorem numbers_are {ys : List Value} {f : Int → Int} (h : IntsAre ys (List.map (fun k => 2 + (f k).fmod 140) (rangeKs 0 ((3 : Int) - 0).toNat))) :
    ∃ t0 t1 t2 n0 n1 n2, ys = [.int n0 t0, .int n1 t1, .int n2 t2] ∧ (2 ≤ n0 ∧ n0 ≤ 141) ∧ (2 ≤ n1 ∧ n1 ≤ 141) ∧ (2 ≤ n2 ∧ n2 ≤ 141) := by
  have e : rangeKs 0 ((3 : Int) - 0).toNat = [0, 1, 2] := by decide
  have b : ∀ x : Int, 2 ≤ 2 + x.fmod 140 ∧ 2 + x.fmod 140 ≤ 141 := fun x => by
    rw [Int.fmod_eq_emod_of_nonneg _ (by decide)]
    have h1 := Int.emod_nonneg x (b := 140) (by decide)
    have h2 := Int.emod_lt_of_pos x (b := 140) (by decide)
    omega
  rw [e] at h
  cases h with
  | cons _ t0 h => cases h with
    | cons _ t1 h => cases h with
      | cons _ t2 h => cases h with
        | nil => exact ⟨t0, t1, t2, _, _, _, rfl, b _, b _, b _⟩
local macro_rules | `(tactic| walk_at "execs cons") => `(tactic| (k_here; (with_reducible refine gen_toks1 ?_); intro tk))
local macro_rules | `(tactic| walk_at "execs nil") => `(tactic| (k_here; (with_reducible refine gen_toks1 ?_); intro tk))
local macro_rules | `(tactic| walk_at "execs cons") => `(tactic| ((with_reducible rename IntsAre _ (List.map _ (rangeKs 0 _)) => hnum); (obtain ⟨tn0, tn1, tn2, n0, n1, n2, hys, bn0, bn1, bn2⟩ := numbers_are hnum); clear hnum; subst hys))
local macro_rules | `(tactic| walk_at "execs cons") => `(tactic| ((with_reducible show wpAny _ _ (execs (Stmt.Assign [Expr.Tuple _ _ _] (Expr.Name _ _) _ :: _) _) _ _ _); refine Stop.out ?_))
local macro_rules | `(tactic| walk_at "exec For Name Call cons nil") => `(tactic| (k_here; (rename Fr _ _ _ _ => lF'); (with_unfolding_all refine' For_invVF lF' ?k1 ?k2 ?_; (case k1 => exact rfl); (case k2 => exact rfl); k_whole)))
theorem M0 : PySem.Challenge.rw_bh0020_01.Holds := Mine.hd (by
  w_top off
  k_with_none
  k_go0
  all_goals try k_fold
  rename List Int => ns
  have hb0 := fm_bd (lawAt ns 0 59)
  k_steps
  refine Stop.mk ?_
  refine' tail_join _ _ _ _ _ _ _ _ _ _ _ _ _ _ _ _ _ _ _ _ rfl _ _ _ _ _ _ _ _ ?hl0 ?hl1 ?h00 ?h01 ?h10 ?h11 ?h20 ?h21 _ _ _ _ _ _ _ _ _ _ _ _ _ _ _ _ _ _ _ _ _ _ _ _ _ _ _ _ _ _ _ _ _ _ _ _ _ _ _ _ _ ?hl ?hi ?B ?X ?T _ ?hm1 ?hm2 ?F _ ?N ?g0 ?g1 ?g2 ?g3 ?g4 ?g5 ?g6 ?g7 ?g8 ?g9 ?g10 ?g11 ?g12 ?g13 ?g14 ?g15 ?g16 ?o1 ?of ?og ?oh ?o2 ?o3 ?o4 ?o5 ?o6 ?o7 ?o8 ?o9 ?oa ?ob ?oc ?od ?oe ?e1 ?e2 ?e3 ?Sa ?S0 ?S1 ?S2 ?hret
  (case F => k_asm)
  (case N => k_asm)
  (case hm1 => exact rfl)
  (case hm2 => exact rfl)
  (case B => k_asm)
  (case X => k_asm)
  (case T => k_asm)
  (case g9 => k_mem)
  (case g7 => k_mem)
  (case g4 => k_mem)
  (case g1 => k_mem)
  (case g8 => k_mem)
  (case g5 => k_mem)
  (case g2 => k_mem)
  (case g11 => k_mem)
  (case g12 => k_mem)
  (case g6 => k_mem)
  (case g3 => k_mem)
  (case g0 => k_mem)
  (case g10 => k_mem)
  (case g13 => k_mem)
  (case g14 => k_mem)
  (case g15 => k_mem)
  (case g16 => k_mem)
  (case e1 => assumption)
  (case e2 => assumption)
  (case e3 => assumption)
  (case Sa => assumption)
  (case S0 => assumption)
  (case S1 => assumption)
  (case S2 => assumption)
  (case hl0 => omega)
  (case hl1 => omega)
  (case h00 => omega)
  (case h01 => omega)
  (case h10 => omega)
  (case h11 => omega)
  (case h20 => omega)
  (case h21 => omega)
  (case hl => first | assumption | exact T.heap)
  (case hi => assumption)
  (case o1 => omega)
  (case of => omega)
  (case og => omega)
  (case oh => omega)
  (case o2 => omega)
  (case o3 => omega)
  (case o4 => omega)
  (case o5 => omega)
  (case o6 => omega)
  (case o7 => omega)
  (case o8 => omega)
  (case o9 => omega)
  (case oa => omega)
  (case ob => omega)
  (case oc => omega)
  (case od => omega)
  (case oe => omega)
  intro h9 tk9 m9 F9
  k_steps
)
end Mine
end
theorem PySem.Challenge.cw_bh0020_01_holds : PySem.Challenge.rw_bh0020_01.Holds :=
  Mine.M0
